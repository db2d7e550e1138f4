import Derived.Test.YbulkexnoqRCmp
namespace Go.Proofs.Ybulkexnoq
open Go.RowKit
set_option linter.unusedVariables false
set_option linter.unusedSimpArgs false

/-- A row of n named amounts in block g. -/
def Row (w : World) (g m n : Nat) (x : Nat → Ent) : Prop := ∃ F, w.rowIs g 36 m F ∧ n * 3 ≤ m ∧ ∀ q, q < n * 3 → F q = cell3 x q
/-- Only block g, and new blocks. -/
def Only (g : Nat) (w w' : World) : Prop := (∀ b, b < w.heap.size → b ≠ g → w'.heap[b]? = w.heap[b]?) ∧ Below g w w'
theorem Only.refl (g : Nat) (w : World) : Only g w w := ⟨fun _ _ _ => rfl, Below.refl _ _⟩
theorem Only.trans {g : Nat} {a b c : World} (h : Only g a b) (k : Only g b c) : Only g a c := ⟨fun i hi hn => (k.1 i (Nat.lt_of_lt_of_le hi h.2.size) hn).trans (h.1 i hi hn), h.2.trans k.2⟩
theorem Only.below {g : Nat} {a b : World} (h : Below a.heap.size a b) (hg : g < a.heap.size) : Only g a b := ⟨fun i hi _ => h.block i hi, h.mono (by omega)⟩
theorem rowI {w : World} {g m n : Nat} {x : Nat → Ent} (h : Row w g m n x) : Row w g m n x := h
theorem Row.lt {w : World} {g m n : Nat} {x : Nat → Ent} (h : Row w g m n x) : g < w.heap.size := by obtain ⟨F, h, _⟩ := h; exact h.lt
theorem Row.below {w w' : World} {g m n : Nat} {x : Nat → Ent} (h : Row w g m n x) (hb : Below w.heap.size w w') : Row w' g m n x := by
  have hl := h.lt
  obtain ⟨F, h1, h2, h3⟩ := h
  exact ⟨F, h1.of_block (hb.block g hl), h2, h3⟩
theorem Row.at3 {w : World} {g m n : Nat} {x : Nat → Ent} (h : Row w g m n x) : At3 w g 0 n x := by
  obtain ⟨F, h1, h2, h3⟩ := h
  exact at_row h1 h2 h3
theorem Row.cells {w : World} {g m n : Nat} {x : Nat → Ent} (h : Row w g m n x) {i : Nat} (hi : i < n) :
    w.cell? ⟨g, i * 3, none⟩ = some (.string (x i).1) ∧ w.cell? ⟨g, i * 3 + 1, none⟩ = some (.int .i64 (x i).2.1) ∧ w.cell? ⟨g, i * 3 + 2, none⟩ = some (.int .u64 (x i).2.2) := by
  have := h.at3 i hi
  simpa only [Nat.zero_add] using this
theorem Row.frozen {w : World} {g m n : Nat} {x : Nat → Ent} (h : Row w g m n x) (q : Nat) : w.frozen? ⟨g, q, none⟩ = false := by
  obtain ⟨F, h1, _⟩ := h
  exact h1.frozen q
theorem Row.congr {w : World} {g m n : Nat} {x y : Nat → Ent} (h : Row w g m n x) (e : ∀ i, i < n → x i = y i) : Row w g m n y := by
  obtain ⟨F, h1, h2, h3⟩ := h
  exact ⟨F, h1, h2, fun q hq => by rw [h3 q hq]; exact cell3_congr (e _ (by omega))⟩

def put3 (w : World) (g i : Nat) (e : Ent) : World := ((w.setCell ⟨g, i * 3, none⟩ (.string e.1)).setCell ⟨g, i * 3 + 1, none⟩ (.int .i64 e.2.1)).setCell ⟨g, i * 3 + 2, none⟩ (.int .u64 e.2.2)
theorem Row.put {w : World} {g m n : Nat} {x : Nat → Ent} (h : Row w g m n x) (i : Nat) (e : Ent) : Row (put3 w g i e) g m n (fun t => if t = i then e else x t) := by
  obtain ⟨F, h1, h2, h3⟩ := h
  refine ⟨_, ((h1.set (i * 3) _).set (i * 3 + 1) _).set (i * 3 + 2) _, h2, fun q hq => ?_⟩
  by_cases hqi : q / 3 = i
  · have : q = i * 3 ∨ q = i * 3 + 1 ∨ q = i * 3 + 2 := by omega
    rcases this with rfl | rfl | rfl
    · rw [cell3_0]; simp
    · rw [cell3_1]; simp
    · rw [cell3_2]; simp
  · simp only [show ¬ q = i * 3 + 2 by omega, show ¬ q = i * 3 + 1 by omega, show ¬ q = i * 3 by omega, if_false]
    rw [h3 q hq]
    exact cell3_congr (by simp [hqi])
theorem Only.put {g : Nat} {a w : World} (h : Only g a w) (i : Nat) (e : Ent) : Only g a (put3 w g i e) := by
  refine ⟨fun b hb hn => ?_, ((h.2.setCell (p := ⟨g, i * 3, none⟩) (Nat.le_refl _) _).setCell (p := ⟨g, i * 3 + 1, none⟩) (Nat.le_refl _) _).setCell (p := ⟨g, i * 3 + 2, none⟩) (Nat.le_refl _) _⟩
  unfold put3
  repeat rw [Below.heap_setCell _ _ _ _ hn]
  exact h.1 b hb hn
theorem Only.drew {g : Nat} {a w : World} (h : Only g a w) : Only g a w.drew := ⟨fun b hb hn => h.1 b hb hn, h.2.drew⟩
theorem Row.drew {w : World} {g m n : Nat} {x : Nat → Ent} (h : Row w g m n x) : Row w.drew g m n x := h.below ((Below.refl _ _).drew)

def swp (x : Nat → Ent) (i j : Nat) : Nat → Ent := fun t => if t = i then x j else if t = j then x i else x t
/-- data[i], data[j] = data[j], data[i] -/
theorem Row.swap {w : World} {g m n : Nat} {x : Nat → Ent} (h : Row w g m n x) (i j : Nat) (hij : i ≠ j) : Row (put3 (put3 w g i (x j)) g j (x i)).drew g m n (swp x i j) := by
  refine ((h.put i (x j)).put j (x i)).drew.congr fun t _ => ?_
  unfold swp
  by_cases h1 : t = i
  · have : t ≠ j := fun e => hij (h1.symm.trans e)
    simp [h1, hij]
  · by_cases h2 : t = j
    · subst h2
      simp [h1]
    · simp [h1, h2]

def fn11 : Value := .func (.func 11) #[] #[]
/-- a and b's ranges of n elements, the first k of them exchanged. -/
def swr (x : Nat → Ent) (a b k : Nat) : Nat → Ent := fun t => if a ≤ t ∧ t < a + k then x (b + (t - a)) else if b ≤ t ∧ t < b + k then x (a + (t - b)) else x t

theorem swr_zero (x : Nat → Ent) (a b n : Nat) : ∀ i, i < n → x i = swr x a b 0 i := fun t _ => by
  unfold swr
  rw [if_neg (by omega), if_neg (by omega)]
theorem swr_succ (x : Nat → Ent) (a b k n : Nat) (h : a + (k + 1) ≤ b) : ∀ t, t < n → swp (swr x a b k) (a + k) (b + k) t = swr x a b (k + 1) t := fun t _ => by
  unfold swp swr
  by_cases h1 : t = a + k
  · subst h1
    rw [if_pos rfl, if_neg (by omega), if_neg (by omega), if_pos (by omega)]
    congr 1
    omega
  · by_cases h2 : t = b + k
    · subst h2
      rw [if_neg h1, if_pos rfl, if_neg (by omega), if_neg (by omega), if_neg (by omega), if_pos (by omega)]
      congr 1
      omega
    · rw [if_neg h1, if_neg h2]
      by_cases h3 : a ≤ t ∧ t < a + k
      · rw [if_pos h3, if_pos (show a ≤ t ∧ t < a + (k + 1) by omega)]
      · by_cases h4 : b ≤ t ∧ t < b + k
        · rw [if_neg h3, if_pos h4, if_neg (show ¬ (a ≤ t ∧ t < a + (k + 1)) by omega), if_pos (show b ≤ t ∧ t < b + (k + 1) by omega)]
        · rw [if_neg h3, if_neg h4, if_neg (show ¬ (a ≤ t ∧ t < a + (k + 1)) by omega), if_neg (show ¬ (b ≤ t ∧ t < b + (k + 1)) by omega)]
theorem w64 {z : Int} (h0 : -9223372036854775808 ≤ z) (h1 : z < 9223372036854775808) : wrap64 z = z := by
  unfold wrap64
  omega
theorem idx_add {a i n : Nat} (h : a + i < n) (hn : n ≤ 1048576) : ∃ p : Nat, Hid (p = a + i) ∧ wrap64 ((a : Int) + (i : Int)) = (p : Int) ∧ p < n :=
  ⟨a + i, show Hid _ from rfl, by rw [w64 (by omega) (by omega)]; rfl, h⟩
theorem wrap_succ {i : Nat} (h : i < 1048576) : wrap64 ((i : Int) + 1) = ((i + 1 : Nat) : Int) := by rw [w64 (by omega) (by omega)]; rfl
theorem dec_lt {i k : Nat} (h : i < k) : decide ((i : Int) < (k : Int)) = true := decide_eq_true (by omega)
theorem dec_nlt {i k : Nat} (h : ¬ i < k) : decide ((i : Int) < (k : Int)) = false := decide_eq_false (by omega)
/-- The places of two elements are apart. -/
theorem apart3 {i j : Nat} (h : i ≠ j) : ¬ (i * 3 = j * 3) ∧ ¬ (i * 3 = j * 3 + 1) ∧ ¬ (i * 3 = j * 3 + 2) ∧ ¬ (i * 3 + 1 = j * 3) ∧ ¬ (i * 3 + 2 = j * 3) ∧ ¬ (i * 3 + 1 = j * 3 + 2) ∧ ¬ (i * 3 + 2 = j * 3 + 1) := by
  refine ⟨?_, ?_, ?_, ?_, ?_, ?_, ?_⟩ <;> omega

set_option maxRecDepth 100000 in
set_option maxHeartbeats 1000000 in
theorem swapRange_any (g m n c a b k : Nat) (x : Nat → Ent) (w : World) (hn : n ≤ 1048576) (hr : Row w g m n x) (hab : a + k ≤ b) (hb : b + k ≤ n) :
    Calls Yba.prog 47 #[.slice (some ⟨g, 0, none⟩) n c, .int .i64 a, .int .i64 b, .int .i64 k, fn11] w fun e w' => e = .returned (.tuple #[]) ∧ Row w' g m n (swr x a b k) ∧ Only g w w' := by
  have HR := show Hid _ from hr
  have HA := show Hid _ from And.intro hn (And.intro hab hb)
  unfold fn11
  clear hr hn hab hb
  go_enter Yba.func47, Yba.ntmps47
  go_wp2_with fail
  go_loopg [10] k (fun gh s10 wr => ∃ i : Nat, i ≤ k ∧ k - i ≤ gh ∧ s10 = .int .i64 i ∧ Hid (Row wr g m n (swr x a b i)) ∧ Hid (Only g w wr))
  case atStart => exact ⟨0, Nat.zero_le _, by omega, rfl, show Hid _ from Row.congr HR.out (swr_zero x a b n), show Hid _ from Only.refl _ _⟩
  case round =>
    obtain ⟨i, hi, hg, rfl, HRW, HO⟩ := hrel
    have hN := HA.out
    by_cases hlt : i < k
    · have e2 := dec_lt hlt
      obtain ⟨p, HP, ep, hpn⟩ := idx_add (a := a) (i := i) (n := n) (by omega) hN.1
      obtain ⟨q, HQ, eq, hqn⟩ := idx_add (a := b) (i := i) (n := n) (by omega) hN.1
      have hpq : p ≠ q := by have := HP.out; have := HQ.out; omega
      have hr := rowI HRW.out
      obtain ⟨a0, a1, a2⟩ := hr.cells hpn
      obtain ⟨b0, b1, b2⟩ := hr.cells hqn
      have f0 := hr.frozen (p * 3)
      have f1 := hr.frozen (p * 3 + 1)
      have f2 := hr.frozen (p * 3 + 2)
      have g0 := hr.frozen (q * 3)
      have g1 := hr.frozen (q * 3 + 1)
      have g2 := hr.frozen (q * 3 + 2)
      obtain ⟨n1, n2, n3, n4, n5, n6, n7⟩ := apart3 hpq
      obtain ⟨m1, m2, m3, m4, m5, m6, m7⟩ := apart3 (fun e => hpq e.symm)
      have H := show Hid _ from And.intro hN (And.intro hi (And.intro hlt hg))
      clear hr hN hi hg
      go_wp2_with fail
      go_big_region
      go_wp2_with fail
      have hw := wrap_succ (i := i) (by have := H.out; omega)
      go_roundg (k - (i + 1))
      case measure => have := H.out; omega
      case rel =>
        refine ⟨i + 1, hlt, Nat.le_refl _, by rw [hw], show Hid _ from ?_, show Hid _ from ((HO.out).put p _ |>.put q _).drew⟩
        have h1 := Row.swap HRW.out p q hpq
        rw [HP.out, HQ.out] at h1
        rw [HP.out, HQ.out]
        exact h1.congr (swr_succ x a b i n (by have := H.out; omega))
    · obtain rfl : i = k := by omega
      go_wp2_with fail
      go_end0
      exact ⟨rfl, HRW.out, HO.out⟩
end Go.Proofs.Ybulkexnoq
