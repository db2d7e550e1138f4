import Derived.Test.YbulkexnnoT1
import Derived.ProofKit
import Derived.OpenShut
import Derived.ChangeOld
import Derived.Deep.SlicePairs
import Derived.Deep.Matrix
namespace Go.Proofs.Ybulkexnno
open Go.ChangeShapes Go.WideShapes Go.ChangeAt Go.RowKit Go.Deep
set_option linter.unusedVariables false

theorem own : ownKnob Yba.prog.godebug = none := by kernel_rfl
theorem laidOut : laidOutB Yba.prog = true := by kernel_rfl

set_option maxRecDepth 100000 in
set_option maxHeartbeats 1000000 in
theorem law_out (w : World) (p0 p2 p3 p4 : Option Addr) (n0 c0 n2 c2 C c3 n4 c4 : Nat) (up : Bool) (m0 : n0 ≤ maxLen) (m2 : n2 ≤ maxLen) (m3 : C ≤ maxLen) (m4 : n4 ≤ maxLen)
    (h : 256 < n0 ∨ 256 < n2 ∨ 256 < C ∨ 4096 < n4) :
    Calls Yba.prog 3 #[.slice p0 n0 c0, .bool up, .slice p2 n2 c2, .slice p3 C c3, .slice p4 n4 c4] w fun e w' => e = .returned (.bool true) ∧ Below w.heap.size w w' := by
  unfold maxLen at m0 m2 m3 m4
  by_cases a0 : (256 : Int) < (n0 : Int)
  · clear h
    go_enter Yba.func3, Yba.ntmps3
    go_wp2
    go_ret
    exact ⟨rfl, Below.refl _ _⟩
  have a0' : (n0 : Int) ≤ 256 := by omega
  clear a0
  by_cases a2 : (256 : Int) < (n2 : Int)
  · clear h
    go_enter Yba.func3, Yba.ntmps3
    go_wp2
    go_ret
    exact ⟨rfl, Below.refl _ _⟩
  have a2' : (n2 : Int) ≤ 256 := by omega
  clear a2
  by_cases a3 : (256 : Int) < (C : Int)
  · clear h
    go_enter Yba.func3, Yba.ntmps3
    go_wp2
    go_ret
    exact ⟨rfl, Below.refl _ _⟩
  have a3' : (C : Int) ≤ 256 := by omega
  have a4 : (4096 : Int) < (n4 : Int) := by omega
  clear h a3
  go_enter Yba.func3, Yba.ntmps3
  go_wp2
  go_ret
  exact ⟨rfl, Below.refl _ _⟩
end Go.Proofs.Ybulkexnno
