/-
  No cell of these rows narrows 'for every input' (looked for: loops, veiled, ifaces, maps, wideKeys, modest, calm, conditions, laid).
  DERIVED. THE GIVEN ROWS OF THIS SEAT. 1 by the template 'for every input the law returns true; each argument reads behind the call as it read before'; 0 by the template 'total and deterministic' (their statements: YbulkexnocFmtTotals.lean).
  GIVEN WITH THE SEED: the statements are not yours to turn. If you find one false, say at which input.
  Laid BY PROGRAM, IN A SANDBOX (cutbox-rows.mjs): the forced cells as the released guide's own fill.sh prints them over the translation cf6fe7dea0d2c837… (all of the seat's roots in one cut). By AI agents, Wed Nov 11 2026. No macro, syntax, notation, axiom, sorry.
-/
import Derived.Test.YbulkexnocFmtChecked
import GoSem.Claim
import GoSem.ClaimJoined
import GoSem.ClaimMapViews
import Derived.JoinedTies
import Derived.KernelRfl
namespace Go.Proofs.YbulkexnocFmt
/- THE CELL 'sum', in the pinned program and in every row, IS THE sha256 OF THE DUMP (.gsa) THAT YbulkexnocFmtProg.lean LOADS. Nothing in Lean hashes anything: it is a label: what it is worth is what the hold of that sum in a sandbox is worth. -/
noncomputable def Ybaf.pinned : Pinned := { name := "ybulkexnocfmt", sum := "cf6fe7dea0d2c8373486fa118b0bfcf7b9121ddf566295fc6074e86f00240eab", checked := Ybaf.checked }
namespace Rows
def none {H : Type} : Left H := { results := [], args := [] }

/-- 'combinant.LawS194040AWhole': WHATEVER THE INPUT: true; the input reads as it did. -/
def lawS194040AWholeSpec : ChangeSpec := { name := "lawS194040AWhole", fn := fun _ => fun
  | [d1, d2, d3, d4] => { results := [.lit (.bool true)], args := [d1, d2, d3, d4] }
  | _ => none }
def lawS194040AWholeRow : OpenClaim := { program := "ybulkexnocfmt", sum := "cf6fe7dea0d2c8373486fa118b0bfcf7b9121ddf566295fc6074e86f00240eab", func := "example.com/combinant/combinant.LawS194040AWhole", spec := "lawS194040AWhole", stops := ["fmt.Sprintf"], inPlace := ["fmt.Sprintf"], apart := false }
/-- NO THEOREM (fmt's text is open here; it may be false): for the released tool's asking of the row's closed facts alone. THE STATEMENT IS 'LawS194040AWholeToldSaid' (YbulkexnocFmtCards.lean). -/
def LawS194040AWholeFormAsk : Prop := lawS194040AWholeRow.holds Ybaf.pinned (OpenSpec.ofChange lawS194040AWholeSpec)

/-- ITS FALSE NEIGHBOUR: 'it returns false'. Refute it at one input. -/
def lawS194040AWholeWrong : ChangeSpec := { name := "lawS194040AWhole", fn := fun _ => fun
  | [d1, d2, d3, d4] => { results := [.lit (.bool false)], args := [d1, d2, d3, d4] }
  | _ => none }
def LawS194040AWholeWrongFormAsk : Prop := lawS194040AWholeRow.holds Ybaf.pinned (OpenSpec.ofChange lawS194040AWholeWrong)

end Rows
end Go.Proofs.YbulkexnocFmt
