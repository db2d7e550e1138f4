/-
  No cell of these rows narrows 'for every input' (looked for: loops, veiled, ifaces, maps, wideKeys, modest, calm, conditions, laid).
  DERIVED. THE GIVEN ROWS OF THIS SEAT. 1 by the template 'for every input the law returns true; each argument reads behind the call as it read before'; 0 by the template 'total and deterministic' (their statements: YbulkexnnoTotals.lean).
  GIVEN WITH THE SEED: the statements are not yours to turn. If you find one false, say at which input.
  Laid BY PROGRAM, IN A SANDBOX (cutbox-rows.mjs): the forced cells as the released guide's own fill.sh prints them over the translation 74a7507e1566eb8a… (all of the seat's roots in one cut). By AI agents, Wed Nov 11 2026. No macro, syntax, notation, axiom, sorry.
-/
import Derived.Test.YbulkexnnoChecked
import GoSem.Claim
import GoSem.ClaimJoined
import GoSem.ClaimMapViews
import Derived.JoinedTies
import Derived.KernelRfl
namespace Go.Proofs.Ybulkexnno
/- THE CELL 'sum', in the pinned program and in every row, IS THE sha256 OF THE DUMP (.gsa) THAT YbulkexnnoProg.lean LOADS. Nothing in Lean hashes anything: it is a label: what it is worth is what the hold of that sum in a sandbox is worth. -/
noncomputable def Yba.pinned : Pinned := { name := "ybulkexnno", sum := "74a7507e1566eb8af095edc406a5ba3cf03928649be577fb08e86b7e782f6236", checked := Yba.checked }
namespace Rows
def none {H : Type} : Left H := { results := [], args := [] }

/-- 'castwright.LawS194039AWhole': WHATEVER THE INPUT: true; the input reads as it did. -/
def lawS194039AWholeSpec : ChangeSpec := { name := "lawS194039AWhole", fn := fun _ => fun
  | [d1, d2, d3, d4, d5] => { results := [.lit (.bool true)], args := [d1, d2, d3, d4, d5] }
  | _ => none }
def lawS194039AWholeRow : OpenClaim := { program := "ybulkexnno", sum := "74a7507e1566eb8af095edc406a5ba3cf03928649be577fb08e86b7e782f6236", func := "example.com/castwright/castwright.LawS194039AWhole", spec := "lawS194039AWhole", unfollowed := true, recurses := true, plainKeys := false, apart := false }
def LawS194039AWholeSaid : Prop := lawS194039AWholeRow.holds Yba.pinned (OpenSpec.ofChange lawS194039AWholeSpec)

/-- ITS FALSE NEIGHBOUR: 'it returns false'. Refute it at one input. -/
def lawS194039AWholeWrong : ChangeSpec := { name := "lawS194039AWhole", fn := fun _ => fun
  | [d1, d2, d3, d4, d5] => { results := [.lit (.bool false)], args := [d1, d2, d3, d4, d5] }
  | _ => none }
def LawS194039AWholeWrongFalsely : Prop := lawS194039AWholeRow.holds Yba.pinned (OpenSpec.ofChange lawS194039AWholeWrong)

end Rows
end Go.Proofs.Ybulkexnno
