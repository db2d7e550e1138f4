import Derived.Test.YbulkexnoqQDel2
import Derived.Lib.Bytealg
import Derived.Shelf.Small.Strs
namespace Go.Proofs.Ybulkexnoq
open Go.RowKit
set_option linter.unusedVariables false
set_option linter.unusedSimpArgs false

/-- What strings.Compare answers. -/
def cmp (a b : ByteArray) : Int := Lib.compareBytes a.data.toList b.data.toList

theorem run_cmpstring (a b : ByteArray) (V : World) : (callFunc 35 #[.string a, .string b]).run Yba.prog V = .ok (.value (.int .i64 (cmp a b))) V := by
  rw [run_callFunc_extern Yba.func35 (by kernel_rfl) (by kernel_rfl) (by kernel_rfl) (e := Extern.BytealgCompare.compare) (by kernel_rfl), Lib.run_compareString]
  rfl

theorem compareString_any (a b : ByteArray) (w : World) : Calls Yba.prog 27 #[.string a, .string b] w fun e w' => e = .returned (.int .i64 (cmp a b)) ∧ w' = w := by
  have hc := run_cmpstring a b
  go_enter Yba.func27, Yba.ntmps27
  go_wp2_with fail
  go_ret
  exact ⟨rfl, rfl⟩
theorem compare_any (a b : ByteArray) (w : World) : Calls Yba.prog 12 #[.string a, .string b] w fun e w' => e = .returned (.int .i64 (cmp a b)) ∧ w' = w := by
  have HC := show Hid _ from compareString_any a b w
  go_enter Yba.func12, Yba.ntmps12
  go_wp2_with fail
  refine Calls.mono HC.out ?_
  rintro e w' ⟨rfl, rfl⟩
  dsimp only
  go_wp2_with fail
  go_ret
  exact ⟨rfl, rfl⟩
theorem cmp11 (x y : Ent) (w : World) : Calls Yba.prog 11 #[agg x, agg y] w fun e w' => e = .returned (.int .i64 (cmp x.1 y.1)) ∧ Below w.heap.size w w' := by
  obtain ⟨s, h, l⟩ := x
  obtain ⟨t, h2, l2⟩ := y
  have HC := show Hid _ from fun V => compare_any s t V
  have hb := ((Below.refl w.heap.size w).alloc (Nat.le_refl _) (.cells #[.string s, .int .i64 h, .int .u64 l] 36)).alloc (by simp) (.cells #[.string t, .int .i64 h2, .int .u64 l2] 36)
  have HB := show Hid _ from hb
  clear hb
  unfold agg
  go_enter Yba.func11, Yba.ntmps11
  go_wp2_with fail
  refine Calls.mono (HC.out _) ?_
  rintro e w' ⟨rfl, rfl⟩
  dsimp only
  go_wp2_with fail
  go_ret
  exact ⟨rfl, HB.out⟩

/-- The order of the names. -/
def lt (x y : Ent) : Bool := decide (cmp x.1 y.1 < 0)
theorem cb_asymm : ∀ a b : List UInt8, Lib.compareBytes a b < 0 → ¬ Lib.compareBytes b a < 0
  | [], [] => by simp [Lib.compareBytes]
  | [], _ :: _ => by simp [Lib.compareBytes]
  | _ :: _, [] => by simp [Lib.compareBytes]
  | a :: u, b :: v => by
    unfold Lib.compareBytes
    have ih := cb_asymm u v
    by_cases h1 : a < b
    · have h2 : ¬ b < a := UInt8.lt_asymm h1
      simp [h1, h2]
    · by_cases h2 : b < a
      · simp [h1, h2]
      · simpa [h1, h2] using ih
theorem cb_zero : ∀ a b : List UInt8, Lib.compareBytes a b = 0 → a = b
  | [], [] => by simp
  | [], _ :: _ => by simp [Lib.compareBytes]
  | _ :: _, [] => by simp [Lib.compareBytes]
  | a :: u, b :: v => by
    unfold Lib.compareBytes
    have ih := cb_zero u v
    by_cases h1 : a < b
    · simp [h1]
    · by_cases h2 : b < a
      · simp [h1, h2]
      · intro h
        simp only [h1, h2, if_false] at h
        have : a = b := UInt8.le_antisymm (UInt8.not_lt.1 h2) (UInt8.not_lt.1 h1)
        rw [this, ih h]
theorem cb_self : ∀ a : List UInt8, Lib.compareBytes a a = 0
  | [] => rfl
  | a :: u => by
    unfold Lib.compareBytes
    simp [cb_self u, UInt8.lt_irrefl]
theorem cb_trans : ∀ a b c : List UInt8, Lib.compareBytes a b < 0 → Lib.compareBytes b c < 0 → Lib.compareBytes a c < 0
  | [], [], _ => by simp [Lib.compareBytes]
  | [], _ :: _, [] => by simp [Lib.compareBytes]
  | [], _ :: _, _ :: _ => by simp [Lib.compareBytes]
  | _ :: _, [], _ => by simp [Lib.compareBytes]
  | _ :: _, _ :: _, [] => by simp [Lib.compareBytes]
  | a :: u, b :: v, c :: z => by
    have ih := cb_trans u v z
    unfold Lib.compareBytes
    intro h1 h2
    by_cases hab : a < b
    · by_cases hbc : b < c
      · simp [UInt8.lt_trans hab hbc]
      · by_cases hcb : c < b
        · simp [hbc, hcb] at h2
        · have : b = c := UInt8.le_antisymm (UInt8.not_lt.1 hcb) (UInt8.not_lt.1 hbc)
          subst this
          simp [hab]
    · by_cases hba : b < a
      · simp [hab, hba] at h1
      · have : a = b := UInt8.le_antisymm (UInt8.not_lt.1 hba) (UInt8.not_lt.1 hab)
        subst this
        simp only [hab, if_false] at h1
        by_cases hbc : a < c
        · simp [hbc]
        · by_cases hcb : c < a
          · simp [hbc, hcb] at h2
          · simp only [hbc, hcb, if_false] at h2 ⊢
            exact ih h1 h2
theorem cb_pos : ∀ a b : List UInt8, 0 < Lib.compareBytes a b → Lib.compareBytes b a < 0
  | [], [] => by simp [Lib.compareBytes]
  | [], _ :: _ => by simp [Lib.compareBytes]
  | _ :: _, [] => by simp [Lib.compareBytes]
  | a :: u, b :: v => by
    unfold Lib.compareBytes
    have ih := cb_pos u v
    by_cases h1 : a < b
    · simp [h1]
    · by_cases h2 : b < a
      · simp [h1, h2]
      · simpa [h1, h2] using ih
theorem lt_asymm {x y : Ent} (h : lt x y = true) : lt y x = false := decide_eq_false (cb_asymm _ _ (of_decide_eq_true h))
theorem lt_irrefl (x : Ent) : lt x x = false := by simp [lt, cmp, cb_self]
/-- Not less is transitive. -/
theorem ge_trans {x y z : Ent} (h1 : lt y x = false) (h2 : lt z y = false) : lt z x = false := by
  refine decide_eq_false fun h => ?_
  have k1 : ¬ cmp y.1 x.1 < 0 := of_decide_eq_false h1
  have k2 : ¬ cmp z.1 y.1 < 0 := of_decide_eq_false h2
  unfold cmp at *
  rcases Int.lt_trichotomy (Lib.compareBytes y.1.data.toList x.1.data.toList) 0 with e | e | e
  · exact k1 e
  · rw [cb_zero _ _ e] at k2
    exact k2 h
  · exact k2 (cb_trans _ _ _ h (cb_pos _ _ e))
theorem cmp_zero {a b : ByteArray} : cmp a b = 0 ↔ a = b := by
  constructor
  · intro h
    have h1 := Array.ext' (cb_zero _ _ h)
    cases a; cases b
    simp at h1
    rw [h1]
  · rintro rfl
    exact cb_self _
end Go.Proofs.Ybulkexnoq
