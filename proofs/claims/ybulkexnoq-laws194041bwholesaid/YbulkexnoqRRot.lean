import Derived.Test.YbulkexnoqRSwap
namespace Go.Proofs.Ybulkexnoq
open Go.RowKit
set_option linter.unusedVariables false
set_option linter.unusedSimpArgs false

/-- [a,mm) and [mm,b) have changed places. -/
def rot (x : Nat → Ent) (a mm b : Nat) : Nat → Ent := fun t => if a ≤ t ∧ t < a + (b - mm) then x (mm + (t - a)) else if a + (b - mm) ≤ t ∧ t < b then x (a + (t - (a + (b - mm)))) else x t

structure RotInv (R y : Nat → Ent) (p mm i j : Nat) : Prop where
  pi : p + i = mm
  out : ∀ t, (t < p ∨ mm + j ≤ t) → y t = R t
  fst : ∀ k, k < j → R (p + k) = y (mm + k)
  snd : ∀ k, k < i → R (p + j + k) = y (p + k)

theorem RotInv.start (x : Nat → Ent) {a mm b : Nat} (h1 : a ≤ mm) (h2 : mm ≤ b) : RotInv (rot x a mm b) x a mm (mm - a) (b - mm) := by
  refine ⟨by omega, fun t ht => ?_, fun k hk => ?_, fun k hk => ?_⟩
  · unfold rot
    rw [if_neg (by omega), if_neg (by omega)]
  · unfold rot
    rw [if_pos (by omega)]
    congr 1
    omega
  · unfold rot
    rw [if_neg (by omega), if_pos (by omega)]
    congr 1
    omega
theorem swr_fst {y : Nat → Ent} {a b k t : Nat} (h : a ≤ t ∧ t < a + k) : swr y a b k t = y (b + (t - a)) := by
  unfold swr; rw [if_pos h]
theorem swr_snd {y : Nat → Ent} {a b k t : Nat} (hab : a + k ≤ b) (h : b ≤ t ∧ t < b + k) : swr y a b k t = y (a + (t - b)) := by
  unfold swr; rw [if_neg (by omega), if_pos h]
theorem swr_out {y : Nat → Ent} {a b k t : Nat} (h1 : ¬ (a ≤ t ∧ t < a + k)) (h2 : ¬ (b ≤ t ∧ t < b + k)) : swr y a b k t = y t := by
  unfold swr; rw [if_neg h1, if_neg h2]
theorem RotInv.left {R y : Nat → Ent} {p mm i j : Nat} (h : RotInv R y p mm i j) (hji : j < i) : RotInv R (swr y p mm j) (p + j) mm (i - j) j := by
  have hp := h.pi
  refine ⟨by omega, fun t ht => ?_, fun k hk => ?_, fun k hk => ?_⟩
  · by_cases h1 : p ≤ t ∧ t < p + j
    · rw [swr_fst h1, ← h.fst (t - p) (by omega)]
      congr 1
      omega
    · rw [swr_out h1 (by omega)]
      exact h.out t (by omega)
  · rw [swr_snd (by omega) (by omega), h.snd k (by omega)]
    congr 1
    omega
  · rw [swr_out (by omega) (by omega), show p + j + j + k = p + j + (j + k) by omega, h.snd (j + k) (by omega)]
    congr 1
    omega
theorem RotInv.right {R y : Nat → Ent} {p mm i j : Nat} (h : RotInv R y p mm i j) (hij : i < j) : RotInv R (swr y p (mm + j - i) i) p mm i (j - i) := by
  have hp := h.pi
  refine ⟨hp, fun t ht => ?_, fun k hk => ?_, fun k hk => ?_⟩
  · by_cases h1 : mm + j - i ≤ t ∧ t < mm + j - i + i
    · rw [swr_snd (by omega) h1, ← h.snd (t - (mm + j - i)) (by omega)]
      congr 1
      omega
    · rw [swr_out (by omega) h1]
      exact h.out t (by omega)
  · rw [swr_out (by omega) (by omega)]
    exact h.fst k (by omega)
  · rw [swr_fst (by omega), show p + (j - i) + k = p + (j - i + k) by omega, h.fst (j - i + k) (by omega)]
    congr 1
    omega
theorem RotInv.last {R y : Nat → Ent} {p mm i : Nat} (h : RotInv R y p mm i i) (t : Nat) : swr y p mm i t = R t := by
  have hp := h.pi
  by_cases h1 : p ≤ t ∧ t < p + i
  · rw [swr_fst h1, ← h.fst (t - p) (by omega)]
    congr 1
    omega
  · by_cases h2 : mm ≤ t ∧ t < mm + i
    · rw [swr_snd (by omega) h2, ← h.snd (t - mm) (by omega)]
      congr 1
      omega
    · rw [swr_out h1 h2]
      exact h.out t (by omega)

theorem sub64 {a i : Nat} (h : i ≤ a) (ha : a ≤ 1048576) : wrap64 ((a : Int) - (i : Int)) = ((a - i : Nat) : Int) := by rw [w64 (by omega) (by omega)]; omega
theorem add64 {a i : Nat} (ha : a + i ≤ 4194304) : wrap64 ((a : Int) + (i : Int)) = ((a + i : Nat) : Int) := by rw [w64 (by omega) (by omega)]; rfl

set_option maxRecDepth 100000 in
set_option maxHeartbeats 1000000 in
theorem rotate_any (g m n c a mm b : Nat) (x : Nat → Ent) (w : World) (hn : n ≤ 1048576) (hr : Row w g m n x) (h1 : a < mm) (h2 : mm < b) (h3 : b ≤ n) :
    Calls Yba.prog 42 #[.slice (some ⟨g, 0, none⟩) n c, .int .i64 a, .int .i64 mm, .int .i64 b, fn11] w fun e w' => e = .returned (.tuple #[]) ∧ Row w' g m n (rot x a mm b) ∧ Only g w w' := by
  have HR := show Hid _ from hr
  have HA := show Hid _ from And.intro hn (And.intro h1 (And.intro h2 h3))
  have e1 := sub64 (a := mm) (i := a) (by omega) (by omega)
  have e2 := sub64 (a := b) (i := mm) (by omega) (by omega)
  unfold fn11
  clear hr hn h1 h2 h3
  go_enter Yba.func42, Yba.ntmps42
  go_wp2_with fail
  go_loopg [10, 11] (b - a) (fun gh s10 s11 wr => ∃ i j p : Nat, ∃ y, i + j ≤ gh ∧ s10 = .int .i64 i ∧ s11 = .int .i64 j ∧ Hid (0 < i ∧ 0 < j ∧ a ≤ p ∧ mm + j ≤ b) ∧ Hid (RotInv (rot x a mm b) y p mm i j) ∧ Hid (Row wr g m n y) ∧ Hid (Only g w wr))
  case atStart =>
    have hA := HA.out
    exact ⟨mm - a, b - mm, a, x, by omega, by first | rfl | rw [e1], by first | rfl | rw [e2], show Hid _ from ⟨by omega, by omega, by omega, by omega⟩, show Hid _ from RotInv.start x (by omega) (by omega), HR, show Hid _ from Only.refl _ _⟩
  case round =>
    clear HR
    obtain ⟨i, j, p, y, hg, rfl, rfl, HB, HI, HRW, HO⟩ := hrel
    have hA := HA.out
    have hB := HB.out
    have hp : p + i = mm := HI.out.pi
    have ep : wrap64 ((mm : Int) - (i : Int)) = (p : Int) := by rw [sub64 (by omega) (by omega)]; congr 1; omega
    by_cases hij : i = j
    · subst hij
      have hs := swapRange_any g m n c p mm i y wr hA.1 HRW.out (by omega) (by omega)
      have HS := show Hid _ from hs
      clear hs hA hB hp hg e1 e2
      go_wp2_with fail
      refine Calls.mono HS.out ?_
      rintro e w' ⟨rfl, hr', ho'⟩
      dsimp only
      go_wp2_with fail
      go_end0
      exact ⟨rfl, Row.congr hr' (fun t _ => RotInv.last HI.out t), Only.trans HO.out ho'⟩
    · have hne : ((i : Int) == (j : Int)) = false := by simp; omega
      by_cases hlt : j < i
      · have hs := swapRange_any g m n c p mm j y wr hA.1 HRW.out (by omega) (by omega)
        have HS := show Hid _ from hs
        have ei : wrap64 ((i : Int) - (j : Int)) = ((i - j : Nat) : Int) := sub64 (by omega) (by omega)
        have HH := show Hid _ from And.intro hA (And.intro hB (And.intro hp hg))
        clear hs hA hB hp hg e1 e2
        go_wp2_with fail
        refine Calls.mono HS.out ?_
        rintro e w' ⟨rfl, hr', ho'⟩
        dsimp only
        go_wp2_with fail
        obtain ⟨hA, hB, hp, hg⟩ := HH.out
        go_roundg (i - j + j)
        case measure => omega
        case rel => exact ⟨i - j, j, p + j, _, Nat.le_refl _, by rw [ei], rfl, show Hid _ from ⟨by omega, by omega, by omega, by omega⟩, show Hid _ from RotInv.left HI.out hlt, show Hid _ from hr', show Hid _ from Only.trans HO.out ho'⟩
      · have hs := swapRange_any g m n c p (mm + j - i) i y wr hA.1 HRW.out (by omega) (by omega)
        have HS := show Hid _ from hs
        have eq0 : wrap64 ((mm : Int) + (j : Int)) = ((mm + j : Nat) : Int) := add64 (by omega)
        obtain ⟨q, hq⟩ : ∃ q, q = mm + j := ⟨_, rfl⟩
        rw [← hq] at eq0 HS
        have eq1 : wrap64 ((q : Int) - (i : Int)) = ((q - i : Nat) : Int) := sub64 (by omega) (by omega)
        have ei : wrap64 ((j : Int) - (i : Int)) = ((j - i : Nat) : Int) := sub64 (by omega) (by omega)
        have HH := show Hid _ from And.intro hA (And.intro hB (And.intro hp (And.intro hg hq)))
        clear hs hA hB hp hg hq e1 e2
        go_wp2_with fail
        refine Calls.mono HS.out ?_
        rintro e w' ⟨rfl, hr', ho'⟩
        dsimp only
        go_wp2_with fail
        obtain ⟨hA, hB, hp, hg, hq⟩ := HH.out
        go_roundg (i + (j - i))
        case measure => omega
        case rel =>
          rw [hq] at hr'
          exact ⟨i, j - i, p, _, Nat.le_refl _, rfl, by rw [ei], show Hid _ from ⟨by omega, by omega, by omega, by omega⟩, show Hid _ from RotInv.right HI.out (by omega), show Hid _ from hr', show Hid _ from Only.trans HO.out ho'⟩
end Go.Proofs.Ybulkexnoq
