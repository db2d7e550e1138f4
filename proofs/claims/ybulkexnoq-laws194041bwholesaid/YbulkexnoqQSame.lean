import Derived.Test.YbulkexnoqQPos
namespace Go.Proofs.Ybulkexnoq
open Go.RowKit
set_option linter.unusedVariables false
set_option linter.unusedSimpArgs false

theorem Yba.neq36 (s : ByteArray) (h l : Int) (V : World) : (binOp .neq 36 (.agg #[.string s, .int .i64 h, .int .u64 l]) (.agg #[.string s, .int .i64 h, .int .u64 l])).run Yba.prog V = .ok (.bool false) V := by
  have hS : Yba.prog.underlying 36 = some (.struct (Yba.prog.fieldsOf 36)) := by kernel_rfl
  have hp : Yba.prog.stoodInHeld 36 = false := by kernel_rfl
  have hS2 : Yba.prog.underlying 26 = some (.struct (Yba.prog.fieldsOf 26)) := by kernel_rfl
  have hp2 : Yba.prog.stoodInHeld 26 = false := by kernel_rfl
  have z2 : Yba.prog.cellsOf 2 = 1 := by kernel_rfl
  have z24 : Yba.prog.cellsOf 24 = 1 := by kernel_rfl
  have z9 : Yba.prog.cellsOf 9 = 1 := by kernel_rfl
  have z26 : Yba.prog.cellsOf 26 = 2 := by kernel_rfl
  have hin : ∀ V : World, (Op.equalIn 9999 26 (.agg #[.int .i64 h, .int .u64 l]) (.agg #[.int .i64 h, .int .u64 l])).run Yba.prog V = .ok true V := fun V => by
    rw [show (9999 : Nat) = 9998 + 1 from rfl, run_equalIn_agg V 9998 26 _ _ hS2 hp2]
    simp only [Program.fieldsOf, Yba.underlying26]
    go_simp
  rw [run_neq_struct, show (10000 : Nat) = 9999 + 1 from rfl, run_equalIn_agg V 9999 36 _ _ hS hp]
  simp only [Program.fieldsOf, Yba.underlying36]
  go_simp

theorem same_nil (p : Option Addr) (c : Nat) (w : World) : Calls Yba.prog 8 #[.pointer none, .slice p 0 c] w fun e w' => e = .returned (.bool true) ∧ w' = w := by
  go_enter Yba.func8, Yba.ntmps8
  go_wp2_with fail
  go_ret
  exact ⟨rfl, rfl⟩

set_option maxRecDepth 100000 in
set_option maxHeartbeats 1000000 in
theorem same_any (NP L K n c0 c1 : Nat) (x : Nat → Ent) (w : World) (hn : n ≤ 1048576) (hNP : w.cell? ⟨NP, 0, none⟩ = some (.slice (some ⟨L, 0, none⟩) n c0)) (h1 : At3 w L 0 n x) (h2 : At3 w K 0 n x) :
    Calls Yba.prog 8 #[.pointer (some ⟨NP, 0, none⟩), .slice (some ⟨K, 0, none⟩) n c1] w fun e w' => e = .returned (.bool true) ∧ ∃ q, w' = w.drewN q := by
  have HX := show Hid _ from And.intro h1 h2
  have n36 := fun i => Yba.neq36 (x i).1 (x i).2.1 (x i).2.2
  clear h1 h2
  go_enter Yba.func8, Yba.ntmps8
  go_wp2_with fail
  go_loopg [5] n (fun g s5 wr => ∃ k q : Nat, k ≤ n ∧ n - k ≤ g ∧ s5 = .int .i64 k ∧ wr = w.drewN q)
  case atStart => exact ⟨0, 0, Nat.zero_le _, by omega, rfl, rfl⟩
  case round =>
    obtain ⟨k, m, hk, hg, rfl, rfl⟩ := hrel
    by_cases hlt : k < n
    · obtain ⟨a0, a1, a2⟩ := HX.out.1 k hlt
      obtain ⟨b0, b1, b2⟩ := HX.out.2 k hlt
      simp only [Nat.zero_add] at a0 a1 a2 b0 b1 b2
      have e2 : decide ((k : Int) < (n : Int)) = true := decide_eq_true (by omega)
      go_wp2_with fail
      go_quiet (fail)
      go_wp2_with fail
      go_roundg (n - (k + 1))
      case measure => omega
      case rel => exact ⟨k + 1, _, by omega, by omega, by go_num, rfl⟩
    · obtain rfl : k = n := by omega
      have e2 : decide ((k : Int) < (k : Int)) = false := decide_eq_false (by omega)
      go_wp2_with fail
      go_ret
      exact ⟨rfl, m, rfl⟩
end Go.Proofs.Ybulkexnoq
