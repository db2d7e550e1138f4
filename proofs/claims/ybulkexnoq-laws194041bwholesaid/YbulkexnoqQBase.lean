import Derived.Test.YbulkexnoqRows
import Derived.WalkKit
import Derived.WalkLawsBesides
import Derived.WalkSpells
import Derived.Deep.OwnRows
import Derived.Deep.Draws
import Derived.Deep.QuietTactic
import Derived.Deep.LoopGhost
import Derived.BigQuiet
import Derived.LaidEqlPtr
namespace Go.Proofs.Ybulkexnoq
open Go.RowKit
set_option linter.unusedVariables false
set_option linter.unusedSimpArgs false

/-- A named amount: name, hi, lo. -/
abbrev Ent := ByteArray × Int × Int
def pos (e : Ent) : Bool := decide (0 < e.2.1) || (decide (e.2.1 = 0) && decide (0 < e.2.2))
def sgn (h l : Int) : Int := if h < 0 then -1 else if h = 0 ∧ l = 0 then 0 else 1
def agg (e : Ent) : Value := .agg #[.string e.1, .int .i64 e.2.1, .int .u64 e.2.2]

theorem Yba.eql26 (a b : Int) (c d : Int) (V : World) : (binOp .eql 26 (.agg #[.int .i64 a, .int .u64 b]) (.agg #[.int .i64 c, .int .u64 d])).run Yba.prog V = .ok (.bool (decide (a = c) && decide (b = d))) V := by
  have hS : Yba.prog.underlying 26 = some (.struct (Yba.prog.fieldsOf 26)) := by kernel_rfl
  have hp : Yba.prog.stoodInHeld 26 = false := by kernel_rfl
  rw [run_eql_struct, show (10000 : Nat) = 9999 + 1 from rfl, run_equalIn_agg V 9999 26 _ _ hS hp]
  simp only [Program.fieldsOf, Yba.underlying26]
  have z2 : Yba.prog.cellsOf 2 = 1 := by kernel_rfl
  have z24 : Yba.prog.cellsOf 24 = 1 := by kernel_rfl
  go_simp
  by_cases h1 : a = c <;> by_cases h2 : b = d <;> simp [h1, h2]

set_option maxHeartbeats 400000 in
theorem cmp_any (h l : Int) (hl : 0 ≤ l) (w : World) :
    Calls Yba.prog 31 #[.agg #[.int .i64 h, .int .u64 l], .agg #[.int .i64 0, .int .u64 0]] w fun e w' => e = .returned (.int .i64 (sgn h l)) ∧ Below w.heap.size w w' := by
  have e26 := Yba.eql26 h l 0 0
  have hb := ((Below.refl w.heap.size w).alloc (Nat.le_refl _) (.cells #[.int .i64 h, .int .u64 l] 26)).alloc (by simp) (.cells #[.int .i64 0, .int .u64 0] 26)
  have HB := show Hid _ from hb
  clear hb
  unfold sgn
  by_cases h1 : h < 0
  · have e1 : decide (h < 0) = true := decide_eq_true h1
    simp only [h1, if_true]
    go_enter Yba.func31, Yba.ntmps31
    go_wp2
    go_ret
    exact ⟨rfl, HB.out⟩
  · by_cases h0 : h = 0
    · subst h0
      by_cases l0 : l = 0
      · subst l0
        go_enter Yba.func31, Yba.ntmps31
        go_wp2
        go_ret
        exact ⟨rfl, HB.out⟩
      · go_enter Yba.func31, Yba.ntmps31
        go_wp2
        go_ret
        exact ⟨by simp [l0], HB.out⟩
    · go_enter Yba.func31, Yba.ntmps31
      go_wp2
      go_ret
      exact ⟨by simp [h0, h1], HB.out⟩

theorem sign_any (h l : Int) (hl : 0 ≤ l) (w : World) :
    Calls Yba.prog 21 #[.agg #[.int .i64 h, .int .u64 l]] w fun e w' => e = .returned (.int .i64 (sgn h l)) ∧ Below w.heap.size w w' := by
  have hc := fun V => cmp_any h l hl V
  have HC := show Hid _ from hc
  clear hc
  go_enter Yba.func21, Yba.ntmps21
  go_wp2_with fail
  refine Calls.mono (HC.out _) ?_
  rintro e w' ⟨rfl, hb⟩
  dsimp only
  go_wp2_with fail
  go_ret
  exact ⟨rfl, ((Below.refl w.heap.size w).alloc (Nat.le_refl _) _).trans (hb.mono (by simp))⟩

theorem sgn_pos (e : Ent) (hl : 0 ≤ e.2.2) : decide (sgn e.2.1 e.2.2 ≤ 0) = !pos e := by
  unfold sgn pos
  by_cases h1 : e.2.1 < 0
  · simp [h1, show ¬ (0 < e.2.1) by omega, show ¬ (e.2.1 = 0) by omega]
  · by_cases h2 : e.2.1 = 0
    · by_cases h3 : e.2.2 = 0
      · simp [h2, h3]
      · simp [h2, h3]; omega
    · simp [h1, h2]; omega

/-- The closure of Positive. -/
theorem pred_any (x : Ent) (hl : 0 ≤ x.2.2) (w : World) :
    Calls Yba.prog 20 #[agg x] w fun e w' => e = .returned (.bool (!pos x)) ∧ Below w.heap.size w w' := by
  obtain ⟨s, h, l⟩ := x
  have hc := fun V => sign_any h l hl V
  have HC := show Hid _ from hc
  have HP := show Hid _ from sgn_pos (s, h, l) hl
  clear hc hl
  unfold agg
  go_enter Yba.func20, Yba.ntmps20
  go_wp2_with fail
  refine Calls.mono (HC.out _) ?_
  rintro e w' ⟨rfl, hb⟩
  dsimp only
  go_wp2_with fail
  go_ret
  refine ⟨?_, ((Below.refl w.heap.size w).alloc (Nat.le_refl _) _).trans (hb.mono (by simp))⟩
  rw [← HP.out]
  rfl

theorem posf_any (x : Ent) (w : World) :
    Calls Yba.prog 9 #[.agg #[.int .i64 x.2.1, .int .u64 x.2.2]] w fun e w' => e = .returned (.bool (pos x)) ∧ Below w.heap.size w w' := by
  obtain ⟨s, h, l⟩ := x
  unfold pos
  dsimp only
  by_cases h1 : 0 < h
  · go_enter Yba.func9, Yba.ntmps9
    go_wp2
    go_ret
    exact ⟨by simp [h1], (Below.refl w.heap.size w).alloc (Nat.le_refl _) _⟩
  · by_cases h0 : h = 0
    · subst h0
      go_enter Yba.func9, Yba.ntmps9
      go_wp2
      go_ret
      exact ⟨by simp, (Below.refl w.heap.size w).alloc (Nat.le_refl _) _⟩
    · go_enter Yba.func9, Yba.ntmps9
      go_wp2
      go_ret
      exact ⟨by simp [h1, h0], (Below.refl w.heap.size w).alloc (Nat.le_refl _) _⟩
end Go.Proofs.Ybulkexnoq
