import Derived.Test.YbulkexnoqRRot
import Derived.Deep.RegionHeld3
namespace Go.Proofs.Ybulkexnoq
open Go.RowKit
set_option linter.unusedVariables false
set_option linter.unusedSimpArgs false

/-- Sorted by name on [a,b). -/
def Srt (x : Nat → Ent) (a b : Nat) : Prop := ∀ i j, a ≤ i → i < j → j < b → lt (x j) (x i) = false
/-- Outside [a,b) as it was; inside, nothing but what was there. -/
def Kept (x y : Nat → Ent) (a b : Nat) : Prop := (∀ t, (t < a ∨ b ≤ t) → y t = x t) ∧ ∀ t, a ≤ t → t < b → ∃ s, a ≤ s ∧ s < b ∧ y t = x s

/-- x a has moved right to place k. -/
def mvR (x : Nat → Ent) (a k : Nat) : Nat → Ent := fun t => if a ≤ t ∧ t < k then x (t + 1) else if t = k then x a else x t
theorem mvR_start (x : Nat → Ent) (a : Nat) : ∀ t, x t = mvR x a a t := fun t => by
  unfold mvR
  rw [if_neg (by omega)]
  split
  · next h => rw [h]
  · rfl
theorem mvR_step (x : Nat → Ent) {a k : Nat} (h : a ≤ k) : ∀ t, swp (mvR x a k) k (k + 1) t = mvR x a (k + 1) t := fun t => by
  unfold swp
  by_cases h1 : t = k
  · rw [if_pos h1]
    unfold mvR
    rw [if_neg (by omega), if_neg (by omega), if_pos (by omega), h1]
  · rw [if_neg h1]
    by_cases h2 : t = k + 1
    · rw [if_pos h2]
      unfold mvR
      rw [if_neg (by omega), if_pos rfl, if_neg (by omega), if_pos h2]
    · rw [if_neg h2]
      unfold mvR
      by_cases h3 : a ≤ t ∧ t < k
      · rw [if_pos h3, if_pos (by omega)]
      · rw [if_neg h3, if_neg h1, if_neg (by omega), if_neg h2]
theorem mvR_kept (x : Nat → Ent) {a k b : Nat} (h1 : a ≤ k) (h2 : k < b) : Kept x (mvR x a k) a b := by
  refine ⟨fun t ht => ?_, fun t ht1 ht2 => ?_⟩
  · unfold mvR
    rw [if_neg (by omega), if_neg (by omega)]
  · unfold mvR
    by_cases h3 : a ≤ t ∧ t < k
    · rw [if_pos h3]; exact ⟨t + 1, by omega, by omega, rfl⟩
    · rw [if_neg h3]
      by_cases h4 : t = k
      · rw [if_pos h4]; exact ⟨a, by omega, by omega, rfl⟩
      · rw [if_neg h4]; exact ⟨t, ht1, ht2, rfl⟩
theorem Srt.le {x : Nat → Ent} {a b : Nat} (h : Srt x a b) {i j : Nat} (h1 : a ≤ i) (h2 : i ≤ j) (h3 : j < b) : lt (x j) (x i) = false := by
  rcases Nat.lt_or_ge i j with h4 | h4
  · exact h i j h1 h4 h3
  · have : i = j := by omega
    subst this
    exact lt_irrefl _
theorem mvR_srt {x : Nat → Ent} {a b i : Nat} (hs : Srt x (a + 1) b) (h1 : a + 1 ≤ i) (h2 : i ≤ b) (hl : i = a + 1 ∨ lt (x (i - 1)) (x a) = true) (hr : i = b ∨ lt (x i) (x a) = false) : Srt (mvR x a (i - 1)) a b := by
  intro t u h3 h4 h5
  unfold mvR
  by_cases c1 : a ≤ t ∧ t < i - 1
  · rw [if_pos c1]
    by_cases c2 : a ≤ u ∧ u < i - 1
    · rw [if_pos c2]; exact hs _ _ (by omega) (by omega) (by omega)
    · rw [if_neg c2]
      by_cases c3 : u = i - 1
      · rw [if_pos c3]
        rcases hl with hl | hl
        · omega
        · exact ge_trans (hs.le (i := t + 1) (j := i - 1) (by omega) (by omega) (by omega)) (lt_asymm hl)
      · rw [if_neg c3]; exact hs _ _ (by omega) (by omega) (by omega)
  · rw [if_neg c1]
    by_cases c2 : t = i - 1
    · rw [if_pos c2, if_neg (by omega), if_neg (by omega)]
      rcases hr with hr | hr
      · omega
      · exact ge_trans hr (hs.le (i := i) (j := u) (by omega) (by omega) (by omega))
    · rw [if_neg c2, if_neg (by omega), if_neg (by omega)]
      exact hs _ _ (by omega) (by omega) (by omega)

theorem half64 {i j : Nat} (h : i + j ≤ 4194304) : wrap64 (IntKind.u64.wrap (wrap64 ((i : Int) + (j : Int))) / 2) = (((i + j) / 2 : Nat) : Int) := by
  have e : IntKind.u64.wrap (wrap64 ((i : Int) + (j : Int))) = ((i + j : Nat) : Int) := by
    rw [add64 h, IntKind.wrap_u64]
    omega
  rw [e, w64 (by omega) (by omega)]
  omega
theorem pred64 {i : Nat} (h : 0 < i) (h2 : i ≤ 1048576) : wrap64 ((i : Int) - 1) = ((i - 1 : Nat) : Int) := by rw [w64 (by omega) (by omega)]; omega
theorem mid64 {i j n : Nat} (h1 : i < j) (h2 : j ≤ n) (hn : n ≤ 1048576) : ∃ h : Nat, wrap64 (IntKind.u64.wrap (wrap64 ((i : Int) + (j : Int))) / 2) = (h : Int) ∧ wrap64 ((h : Int) + 1) = ((h + 1 : Nat) : Int) ∧ i ≤ h ∧ h < j ∧ h < n :=
  ⟨(i + j) / 2, half64 (by omega), wrap_succ (by omega), by omega, by omega, by omega⟩
theorem pre64 {i n : Nat} (h : 0 < i) (h2 : i ≤ n) (hn : n ≤ 1048576) : ∃ q : Nat, Hid (q = i - 1) ∧ wrap64 ((i : Int) - 1) = (q : Int) ∧ q < n := ⟨i - 1, show Hid _ from rfl, pred64 h (by omega), by omega⟩
theorem suc64 {i n : Nat} (h : i + 1 < n) (hn : n ≤ 1048576) : ∃ q : Nat, Hid (q = i + 1) ∧ wrap64 ((i : Int) + 1) = (q : Int) ∧ q < n ∧ i ≠ q := ⟨i + 1, show Hid _ from rfl, wrap_succ (by omega), h, by omega⟩
theorem Row.eq {w : World} {g m n : Nat} {x y : Nat → Ent} (h : Row w g m n x) (e : ∀ t, x t = y t) : Row w g m n y := h.congr fun t _ => e t

set_option maxRecDepth 100000 in
set_option maxHeartbeats 1000000 in
theorem symA (g m n c a b : Nat) (x : Nat → Ent) (w : World) (hn : n ≤ 1048576) (hr : Row w g m n x) (h2 : a + 1 < b) (h3 : b ≤ n) (hs : Srt x (a + 1) b) :
    Calls Yba.prog 34 #[.slice (some ⟨g, 0, none⟩) n c, .int .i64 a, .int .i64 (a + 1 : Nat), .int .i64 b, fn11] w fun e w' => e = .returned (.tuple #[]) ∧ Only g w w' ∧ ∃ y, Row w' g m n y ∧ Kept x y a b ∧ Srt y a b := by
  obtain ⟨mm, hmm⟩ : ∃ mm, mm = a + 1 := ⟨_, rfl⟩
  rw [← hmm]
  have e1 : wrap64 ((mm : Int) - (a : Int)) = 1 := by rw [sub64 (by omega) (by omega), hmm]; omega
  have HR := show Hid _ from hr
  have HA := show Hid _ from And.intro hn (And.intro h2 (And.intro h3 (And.intro hs hmm)))
  unfold fn11
  clear hr hn h2 h3 hs hmm
  go_enter Yba.func34, Yba.ntmps34
  go_wp2_with fail
  clear e1
  go_loopg [10, 11] b (fun gh s10 s11 wr => ∃ i j : Nat, j - i ≤ gh ∧ s10 = .int .i64 i ∧ s11 = .int .i64 j ∧ Hid (mm ≤ i ∧ i ≤ j ∧ j ≤ b ∧ (i = mm ∨ lt (x (i - 1)) (x a) = true) ∧ (j = b ∨ lt (x j) (x a) = false)) ∧ Hid (Row wr g m n x) ∧ Hid (Only g w wr))
  case atStart =>
    have hA := HA.out
    exact ⟨mm, b, by omega, rfl, rfl, show Hid _ from ⟨by omega, by omega, by omega, .inl rfl, .inl rfl⟩, HR, show Hid _ from Only.refl _ _⟩
  case round =>
    clear HR
    rename_i Kx hKx J1 J2 J3 J4
    have HK := show Hid _ from hKx
    clear hKx
    obtain ⟨i, j, hg, rfl, rfl, HB, HRW, HO⟩ := hrel
    have hA := HA.out
    have hB := HB.out
    by_cases hlt : i < j
    · have ha : a < n := by omega
      have hjn : j ≤ n := by omega
      obtain ⟨h, eh, eh1, hih, hhj, hh⟩ := mid64 hlt hjn hA.1
      obtain ⟨a0, a1, a2⟩ := Row.cells HRW.out ha
      obtain ⟨b0, b1, b2⟩ := Row.cells HRW.out hh
      have HH := show Hid _ from And.intro hg (And.intro hih hhj)
      have hgl : g < wr.heap.size := Row.lt HRW.out
      clear hA hB hg hih hhj
      cases hl : lt (x h) (x a)
      · have hl' : decide (cmp (x h).1 (x a).1 < 0) = false := hl
        go_wp2_with fail
        rw [eh]
        go_region_held3 (fun V => V.cell? ⟨g, h * 3, none⟩ = some (.string (x h).1) ∧ V.cell? ⟨g, h * 3 + 1, none⟩ = some (.int .i64 (x h).2.1) ∧ V.cell? ⟨g, h * 3 + 2, none⟩ = some (.int .u64 (x h).2.2) ∧ V.cell? ⟨g, a * 3, none⟩ = some (.string (x a).1) ∧ V.cell? ⟨g, a * 3 + 1, none⟩ = some (.int .i64 (x a).2.1) ∧ V.cell? ⟨g, a * 3 + 2, none⟩ = some (.int .u64 (x a).2.2)) (go_keep) (first
            | (go_at_call 11; refine Calls.mono (cmp11 (x h) (x a) _) ?_; rintro e w1 ⟨rfl, hb1⟩; have hr1 := Row.below (Row.drew HRW.out) hb1; obtain ⟨p0, p1, p2⟩ := hr1.cells hh; obtain ⟨q0, q1, q2⟩ := hr1.cells ha))
        go_wp2_with fail
        have HE := show Hid _ from And.intro eh eh1
        clear eh eh1
        go_roundg (h - i)
        case measure => have := HH.out; omega
        case rel =>
          have hB := HB.out
          have hH := HH.out
          exact ⟨i, h, Nat.le_refl _, rfl, rfl, show Hid _ from ⟨hB.1, by omega, by omega, hB.2.2.2.1, .inr hl⟩, show Hid _ from hr1, show Hid _ from Only.trans (Only.drew HO.out) (Only.below hb1 hgl)⟩
      · have hl' : decide (cmp (x h).1 (x a).1 < 0) = true := hl
        go_wp2_with fail
        rw [eh]
        go_region_held3 (fun V => V.cell? ⟨g, h * 3, none⟩ = some (.string (x h).1) ∧ V.cell? ⟨g, h * 3 + 1, none⟩ = some (.int .i64 (x h).2.1) ∧ V.cell? ⟨g, h * 3 + 2, none⟩ = some (.int .u64 (x h).2.2) ∧ V.cell? ⟨g, a * 3, none⟩ = some (.string (x a).1) ∧ V.cell? ⟨g, a * 3 + 1, none⟩ = some (.int .i64 (x a).2.1) ∧ V.cell? ⟨g, a * 3 + 2, none⟩ = some (.int .u64 (x a).2.2)) (go_keep) (first
            | (go_at_call 11; refine Calls.mono (cmp11 (x h) (x a) _) ?_; rintro e w1 ⟨rfl, hb1⟩; have hr1 := Row.below (Row.drew HRW.out) hb1; obtain ⟨p0, p1, p2⟩ := hr1.cells hh; obtain ⟨q0, q1, q2⟩ := hr1.cells ha))
        go_wp2_with fail
        have HE := show Hid _ from And.intro eh eh1
        clear eh eh1
        go_roundg (j - (h + 1))
        case measure => have := HH.out; omega
        case rel =>
          have hB := HB.out
          have hH := HH.out
          exact ⟨h + 1, j, Nat.le_refl _, by first | rfl | (rw [HE.out.2]) | (rw [HE.out.1, HE.out.2]), rfl, show Hid _ from ⟨by omega, by omega, by omega, .inr hl, hB.2.2.2.2⟩, show Hid _ from hr1, show Hid _ from Only.trans (Only.drew HO.out) (Only.below hb1 hgl)⟩
    · obtain rfl : i = j := by omega
      obtain ⟨q, HQ, ei, _⟩ := pre64 (i := i) (n := n) (by omega) (by omega) hA.1
      clear hA hB hg
      go_wp2_with fail
      refine HK.out _ _ ?_
      go_wp2_with fail
      go_loopg [13] q (fun gh s13 wv => ∃ k : Nat, q - k ≤ gh ∧ s13 = .int .i64 k ∧ Hid (a ≤ k ∧ k ≤ q) ∧ Hid (Row wv g m n (mvR x a k)) ∧ Hid (Only g w wv))
      case atStart =>
        clear ei
        have hA := HA.out
        have hB := HB.out
        have hq := HQ.out
        exact ⟨a, by omega, rfl, show Hid _ from ⟨Nat.le_refl _, by omega⟩, show Hid _ from Row.eq HRW.out (mvR_start x a), HO⟩
      case round =>
        obtain ⟨k, hg, rfl, HB2, HRV, HO2⟩ := hrel
        have HEI := show Hid _ from ei
        clear ei
        have hA := HA.out
        have hB := HB.out
        have hB2 := HB2.out
        have hq := HQ.out
        by_cases hlt2 : k < q
        · have hkn : k < n := by omega
          obtain ⟨k1, HK1, ek1', hk1n, hk1⟩ := suc64 (i := k) (n := n) (by omega) hA.1
          obtain ⟨a0, a1, a2⟩ := Row.cells HRV.out hkn
          obtain ⟨b0, b1, b2⟩ := Row.cells HRV.out hk1n
          have f0 := Row.frozen HRV.out (k * 3)
          have f1 := Row.frozen HRV.out (k * 3 + 1)
          have f2 := Row.frozen HRV.out (k * 3 + 2)
          have g0 := Row.frozen HRV.out (k1 * 3)
          have g1 := Row.frozen HRV.out (k1 * 3 + 1)
          have g2 := Row.frozen HRV.out (k1 * 3 + 2)
          obtain ⟨n1, n2, n3, n4, n5, n6, n7⟩ := apart3 hk1
          obtain ⟨m1, m2, m3, m4, m5, m6, m7⟩ := apart3 (fun e => hk1 e.symm)
          have HH := show Hid _ from And.intro hg hB2
          clear hA hB hB2 hq hg
          have ei := HEI.out
          go_wp2_with fail
          clear ei
          go_big_region
          go_wp2_with fail
          have HE := show Hid _ from ek1'
          clear ek1'
          go_roundg (q - (k + 1))
          case measure => have := HH.out; omega
          case rel =>
            have hH := HH.out
            have h1 := Row.swap HRV.out k k1 hk1
            have h2 := HK1.out
            subst h2
            exact ⟨k + 1, Nat.le_refl _, by first | rfl | (rw [HE.out]), show Hid _ from ⟨by omega, by omega⟩, show Hid _ from Row.eq h1 (mvR_step x hH.2.1), show Hid _ from (Only.drew (Only.put (Only.put HO2.out k _) (k + 1) _))⟩
        · obtain rfl : k = q := by omega
          clear hA hB hB2 hq hg
          have ei := HEI.out
          go_wp2_with fail
          clear ei
          refine bodyPost_ret (results_none rfl _ _ _) rfl ?_
          have hA := HA.out
          have hB := HB.out
          have hq := HQ.out
          obtain ⟨c1, c2, c3, c4, c5⟩ := hA
          subst c5
          refine ⟨rfl, HO2.out, _, HRV.out, mvR_kept x (by omega) (by omega), ?_⟩
          rw [hq]
          exact mvR_srt c4 (by omega) (by omega) hB.2.2.2.1 hB.2.2.2.2
end Go.Proofs.Ybulkexnoq
