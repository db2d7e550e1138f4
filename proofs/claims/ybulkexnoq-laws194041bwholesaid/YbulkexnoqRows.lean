/-
  No cell of these rows narrows 'for every input' (looked for: loops, veiled, ifaces, maps, wideKeys, modest, calm, conditions, laid).
  DERIVED. THE GIVEN ROWS OF THIS SEAT. 4 by the template 'for every input the law returns true; each argument reads behind the call as it read before'; 0 by the template 'total and deterministic' (their statements: YbulkexnoqTotals.lean).
  GIVEN WITH THE SEED: the statements are not yours to turn. If you find one false, say at which input.
  Laid BY PROGRAM, IN A SANDBOX (cutbox-rows.mjs): the forced cells as the released guide's own fill.sh prints them over the translation 3c5de83b36731707… (all of the seat's roots in one cut). By AI agents, Wed Nov 11 2026. No macro, syntax, notation, axiom, sorry.
-/
import Derived.Test.YbulkexnoqChecked
import GoSem.Claim
import GoSem.ClaimJoined
import GoSem.ClaimMapViews
import Derived.JoinedTies
import Derived.KernelRfl
namespace Go.Proofs.Ybulkexnoq
/- THE CELL 'sum', in the pinned program and in every row, IS THE sha256 OF THE DUMP (.gsa) THAT YbulkexnoqProg.lean LOADS. Nothing in Lean hashes anything: it is a label: what it is worth is what the hold of that sum in a sandbox is worth. -/
noncomputable def Yba.pinned : Pinned := { name := "ybulkexnoq", sum := "3c5de83b3673170710762dbb9a9e9c7daa3b8ad45828a3d175c72f1fe5c4fc9d", checked := Yba.checked }
namespace Rows
def none {H : Type} : Left H := { results := [], args := [] }

/-- 'resource.LawS194041AWhole': WHATEVER THE INPUT: true; the input reads as it did. -/
def lawS194041AWholeSpec : ChangeSpec := { name := "lawS194041AWhole", fn := fun _ => fun
  | [d1, d2] => { results := [.lit (.bool true)], args := [d1, d2] }
  | _ => none }
def lawS194041AWholeRow : OpenClaim := { program := "ybulkexnoq", sum := "3c5de83b3673170710762dbb9a9e9c7daa3b8ad45828a3d175c72f1fe5c4fc9d", func := "example.com/reservoir/reservoir/internal/resource.LawS194041AWhole", spec := "lawS194041AWhole", unfollowed := true, recurses := true, apart := false }
def LawS194041AWholeSaid : Prop := lawS194041AWholeRow.holds Yba.pinned (OpenSpec.ofChange lawS194041AWholeSpec)

/-- ITS FALSE NEIGHBOUR: 'it returns false'. Refute it at one input. -/
def lawS194041AWholeWrong : ChangeSpec := { name := "lawS194041AWhole", fn := fun _ => fun
  | [d1, d2] => { results := [.lit (.bool false)], args := [d1, d2] }
  | _ => none }
def LawS194041AWholeWrongFalsely : Prop := lawS194041AWholeRow.holds Yba.pinned (OpenSpec.ofChange lawS194041AWholeWrong)

/-- 'resource.LawS194041BWhole': WHATEVER THE INPUT: true; the input reads as it did. -/
def lawS194041BWholeSpec : ChangeSpec := { name := "lawS194041BWhole", fn := fun _ => fun
  | [d1, d2, d3, d4] => { results := [.lit (.bool true)], args := [d1, d2, d3, d4] }
  | _ => none }
def lawS194041BWholeRow : OpenClaim := { program := "ybulkexnoq", sum := "3c5de83b3673170710762dbb9a9e9c7daa3b8ad45828a3d175c72f1fe5c4fc9d", func := "example.com/reservoir/reservoir/internal/resource.LawS194041BWhole", spec := "lawS194041BWhole", inPlace := ["internal/bytealg.abigen_runtime_cmpstring"], unfollowed := true, recurses := true, apart := false }
def LawS194041BWholeSaid : Prop := lawS194041BWholeRow.holds Yba.pinned (OpenSpec.ofChange lawS194041BWholeSpec)

/-- ITS FALSE NEIGHBOUR: 'it returns false'. Refute it at one input. -/
def lawS194041BWholeWrong : ChangeSpec := { name := "lawS194041BWhole", fn := fun _ => fun
  | [d1, d2, d3, d4] => { results := [.lit (.bool false)], args := [d1, d2, d3, d4] }
  | _ => none }
def LawS194041BWholeWrongFalsely : Prop := lawS194041BWholeRow.holds Yba.pinned (OpenSpec.ofChange lawS194041BWholeWrong)

/-- 'yamlparse.LawS194041CWhole': WHATEVER THE INPUT: true; the input reads as it did. -/
def lawS194041CWholeSpec : ChangeSpec := { name := "lawS194041CWhole", fn := fun _ => fun
  | [d] => { results := [.lit (.bool true)], args := [d] }
  | _ => none }
def lawS194041CWholeRow : OpenClaim := { program := "ybulkexnoq", sum := "3c5de83b3673170710762dbb9a9e9c7daa3b8ad45828a3d175c72f1fe5c4fc9d", func := "example.com/reservoir/reservoir/internal/yamlparse.LawS194041CWhole", spec := "lawS194041CWhole", inPlace := ["internal/bytealg.Count", "internal/bytealg.IndexByte", "internal/bytealg.Index"], named := ["internal/bytealg.MaxLen"], apart := false }
def LawS194041CWholeSaid : Prop := lawS194041CWholeRow.holds Yba.pinned (OpenSpec.ofChange lawS194041CWholeSpec)

/-- ITS FALSE NEIGHBOUR: 'it returns false'. Refute it at one input. -/
def lawS194041CWholeWrong : ChangeSpec := { name := "lawS194041CWhole", fn := fun _ => fun
  | [d] => { results := [.lit (.bool false)], args := [d] }
  | _ => none }
def LawS194041CWholeWrongFalsely : Prop := lawS194041CWholeRow.holds Yba.pinned (OpenSpec.ofChange lawS194041CWholeWrong)

/-- 'yamlparse.LawS194041CPieces': WHATEVER THE INPUT: true; the input reads as it did. -/
def lawS194041CPiecesSpec : ChangeSpec := { name := "lawS194041CPieces", fn := fun _ => fun
  | [d] => { results := [.lit (.bool true)], args := [d] }
  | _ => none }
def lawS194041CPiecesRow : OpenClaim := { program := "ybulkexnoq", sum := "3c5de83b3673170710762dbb9a9e9c7daa3b8ad45828a3d175c72f1fe5c4fc9d", func := "example.com/reservoir/reservoir/internal/yamlparse.LawS194041CPieces", spec := "lawS194041CPieces", inPlace := ["internal/bytealg.Count", "internal/bytealg.IndexByte", "internal/bytealg.Index"], named := ["internal/bytealg.MaxLen"], apart := false }
def LawS194041CPiecesSaid : Prop := lawS194041CPiecesRow.holds Yba.pinned (OpenSpec.ofChange lawS194041CPiecesSpec)

/-- ITS FALSE NEIGHBOUR: 'it returns false'. Refute it at one input. -/
def lawS194041CPiecesWrong : ChangeSpec := { name := "lawS194041CPieces", fn := fun _ => fun
  | [d] => { results := [.lit (.bool false)], args := [d] }
  | _ => none }
def LawS194041CPiecesWrongFalsely : Prop := lawS194041CPiecesRow.holds Yba.pinned (OpenSpec.ofChange lawS194041CPiecesWrong)

end Rows
end Go.Proofs.Ybulkexnoq
