/-
  No cell of these rows narrows 'for every input' (looked for: loops, veiled, ifaces, maps, wideKeys, modest, calm, conditions, laid).
  DERIVED. THE GIVEN ROWS OF THIS SEAT. 2 by the template 'for every input the law returns true; each argument reads behind the call as it read before'; 0 by the template 'total and deterministic' (their statements: YbulkexnsyTotals.lean).
  GIVEN WITH THE SEED: the statements are not yours to turn. If you find one false, say at which input.
  Laid BY PROGRAM, IN A SANDBOX (cutbox-rows.mjs): the forced cells as the released guide's own fill.sh prints them over the translation 8c9731c3c1f7f4f5… (all of the seat's roots in one cut). By AI agents, Wed Nov 11 2026. No macro, syntax, notation, axiom, sorry.
-/
import Derived.Test.YbulkexnsyChecked
import GoSem.Claim
import GoSem.ClaimJoined
import GoSem.ClaimMapViews
import Derived.JoinedTies
import Derived.KernelRfl
namespace Go.Proofs.Ybulkexnsy
/- THE CELL 'sum', in the pinned program and in every row, IS THE sha256 OF THE DUMP (.gsa) THAT YbulkexnsyProg.lean LOADS. Nothing in Lean hashes anything: it is a label: what it is worth is what the hold of that sum in a sandbox is worth. -/
noncomputable def Yba.pinned : Pinned := { name := "ybulkexnsy", sum := "8c9731c3c1f7f4f5f917f2274cb09e17bd2460c0cbc924718d492d964b537f2c", checked := Yba.checked }
namespace Rows
def none {H : Type} : Left H := { results := [], args := [] }

/-- 'prelude.LawS194049BWhole': WHATEVER THE INPUT: true; the input reads as it did. -/
def lawS194049BWholeSpec : ChangeSpec := { name := "lawS194049BWhole", fn := fun _ => fun
  | [d1, d2, d3, d4] => { results := [.lit (.bool true)], args := [d1, d2, d3, d4] }
  | _ => none }
def lawS194049BWholeRow : OpenClaim := { program := "ybulkexnsy", sum := "8c9731c3c1f7f4f5f917f2274cb09e17bd2460c0cbc924718d492d964b537f2c", func := "example.com/quern/quern/internal/prelude.LawS194049BWhole", spec := "lawS194049BWhole", unfollowed := true, recurses := true, apart := false }
def LawS194049BWholeSaid : Prop := lawS194049BWholeRow.holds Yba.pinned (OpenSpec.ofChange lawS194049BWholeSpec)

/-- ITS FALSE NEIGHBOUR: 'it returns false'. Refute it at one input. -/
def lawS194049BWholeWrong : ChangeSpec := { name := "lawS194049BWhole", fn := fun _ => fun
  | [d1, d2, d3, d4] => { results := [.lit (.bool false)], args := [d1, d2, d3, d4] }
  | _ => none }
def LawS194049BWholeWrongFalsely : Prop := lawS194049BWholeRow.holds Yba.pinned (OpenSpec.ofChange lawS194049BWholeWrong)

/-- 'jsontext.LawS194049CWhole': WHATEVER THE INPUT: true; the input reads as it did. -/
def lawS194049CWholeSpec : ChangeSpec := { name := "lawS194049CWhole", fn := fun _ => fun
  | [d] => { results := [.lit (.bool true)], args := [d] }
  | _ => none }
def lawS194049CWholeRow : OpenClaim := { program := "ybulkexnsy", sum := "8c9731c3c1f7f4f5f917f2274cb09e17bd2460c0cbc924718d492d964b537f2c", func := "example.com/quern/quern/internal/jsontext.LawS194049CWhole", spec := "lawS194049CWhole", apart := false }
def LawS194049CWholeSaid : Prop := lawS194049CWholeRow.holds Yba.pinned (OpenSpec.ofChange lawS194049CWholeSpec)

/-- ITS FALSE NEIGHBOUR: 'it returns false'. Refute it at one input. -/
def lawS194049CWholeWrong : ChangeSpec := { name := "lawS194049CWhole", fn := fun _ => fun
  | [d] => { results := [.lit (.bool false)], args := [d] }
  | _ => none }
def LawS194049CWholeWrongFalsely : Prop := lawS194049CWholeRow.holds Yba.pinned (OpenSpec.ofChange lawS194049CWholeWrong)

end Rows
end Go.Proofs.Ybulkexnsy
