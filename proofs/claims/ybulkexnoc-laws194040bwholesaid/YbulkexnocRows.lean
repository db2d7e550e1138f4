/-
  No cell of these rows narrows 'for every input' (looked for: loops, veiled, ifaces, maps, wideKeys, modest, calm, conditions, laid).
  DERIVED. THE GIVEN ROWS OF THIS SEAT. 2 by the template 'for every input the law returns true; each argument reads behind the call as it read before'; 0 by the template 'total and deterministic' (their statements: YbulkexnocTotals.lean).
  GIVEN WITH THE SEED: the statements are not yours to turn. If you find one false, say at which input.
  Laid BY PROGRAM, IN A SANDBOX (cutbox-rows.mjs): the forced cells as the released guide's own fill.sh prints them over the translation 28589800a3567896… (all of the seat's roots in one cut). By AI agents, Wed Nov 11 2026. No macro, syntax, notation, axiom, sorry.
-/
import Derived.Test.YbulkexnocChecked
import GoSem.Claim
import GoSem.ClaimJoined
import GoSem.ClaimMapViews
import Derived.JoinedTies
import Derived.KernelRfl
namespace Go.Proofs.Ybulkexnoc
/- THE CELL 'sum', in the pinned program and in every row, IS THE sha256 OF THE DUMP (.gsa) THAT YbulkexnocProg.lean LOADS. Nothing in Lean hashes anything: it is a label: what it is worth is what the hold of that sum in a sandbox is worth. -/
noncomputable def Yba.pinned : Pinned := { name := "ybulkexnoc", sum := "28589800a3567896006da7d9803d9aad330be97703034017e2395fe5a7b8de59", checked := Yba.checked }
namespace Rows
def none {H : Type} : Left H := { results := [], args := [] }

/-- 'combinant.LawS194040BWhole': WHATEVER THE INPUT: true; the input reads as it did. -/
def lawS194040BWholeSpec : ChangeSpec := { name := "lawS194040BWhole", fn := fun _ => fun
  | [d1, d2] => { results := [.lit (.bool true)], args := [d1, d2] }
  | _ => none }
def lawS194040BWholeRow : OpenClaim := { program := "ybulkexnoc", sum := "28589800a3567896006da7d9803d9aad330be97703034017e2395fe5a7b8de59", func := "example.com/combinant/combinant.LawS194040BWhole", spec := "lawS194040BWhole", apart := false }
def LawS194040BWholeSaid : Prop := lawS194040BWholeRow.holds Yba.pinned (OpenSpec.ofChange lawS194040BWholeSpec)

/-- ITS FALSE NEIGHBOUR: 'it returns false'. Refute it at one input. -/
def lawS194040BWholeWrong : ChangeSpec := { name := "lawS194040BWhole", fn := fun _ => fun
  | [d1, d2] => { results := [.lit (.bool false)], args := [d1, d2] }
  | _ => none }
def LawS194040BWholeWrongFalsely : Prop := lawS194040BWholeRow.holds Yba.pinned (OpenSpec.ofChange lawS194040BWholeWrong)

/-- 'combinant.LawS194040CWhole': WHATEVER THE INPUT: true; the input reads as it did. -/
def lawS194040CWholeSpec : ChangeSpec := { name := "lawS194040CWhole", fn := fun _ => fun
  | [d1, d2, d3, d4, d5] => { results := [.lit (.bool true)], args := [d1, d2, d3, d4, d5] }
  | _ => none }
def lawS194040CWholeRow : OpenClaim := { program := "ybulkexnoc", sum := "28589800a3567896006da7d9803d9aad330be97703034017e2395fe5a7b8de59", func := "example.com/combinant/combinant.LawS194040CWhole", spec := "lawS194040CWhole", apart := false }
def LawS194040CWholeSaid : Prop := lawS194040CWholeRow.holds Yba.pinned (OpenSpec.ofChange lawS194040CWholeSpec)

/-- ITS FALSE NEIGHBOUR: 'it returns false'. Refute it at one input. -/
def lawS194040CWholeWrong : ChangeSpec := { name := "lawS194040CWhole", fn := fun _ => fun
  | [d1, d2, d3, d4, d5] => { results := [.lit (.bool false)], args := [d1, d2, d3, d4, d5] }
  | _ => none }
def LawS194040CWholeWrongFalsely : Prop := lawS194040CWholeRow.holds Yba.pinned (OpenSpec.ofChange lawS194040CWholeWrong)

end Rows
end Go.Proofs.Ybulkexnoc
