import Derived.Test.YbulkexnoqRSymA
namespace Go.Proofs.Ybulkexnoq
open Go.RowKit
set_option linter.unusedVariables false
set_option linter.unusedSimpArgs false

/-- x mm has moved left to place k. -/
def mvL (x : Nat → Ent) (mm k : Nat) : Nat → Ent := fun t => if k < t ∧ t ≤ mm then x (t - 1) else if t = k then x mm else x t
theorem mvL_start (x : Nat → Ent) (mm : Nat) : ∀ t, x t = mvL x mm mm t := fun t => by
  unfold mvL
  rw [if_neg (by omega)]
  split
  · next h => rw [h]
  · rfl
theorem mvL_step (x : Nat → Ent) {mm k : Nat} (h : k + 1 ≤ mm) : ∀ t, swp (mvL x mm (k + 1)) (k + 1) k t = mvL x mm k t := fun t => by
  unfold swp
  by_cases h1 : t = k + 1
  · rw [if_pos h1]
    unfold mvL
    rw [if_neg (by omega), if_neg (by omega), if_pos (by omega), h1]
    rfl
  · rw [if_neg h1]
    by_cases h2 : t = k
    · rw [if_pos h2]
      unfold mvL
      rw [if_neg (by omega), if_pos rfl, if_neg (by omega), if_pos h2]
    · rw [if_neg h2]
      unfold mvL
      by_cases h3 : k + 1 < t ∧ t ≤ mm
      · rw [if_pos h3, if_pos (by omega)]
      · rw [if_neg h3, if_neg h1, if_neg (by omega), if_neg h2]
theorem mvL_kept (x : Nat → Ent) {a mm k : Nat} (h1 : a ≤ k) (h2 : k ≤ mm) : Kept x (mvL x mm k) a (mm + 1) := by
  refine ⟨fun t ht => ?_, fun t ht1 ht2 => ?_⟩
  · unfold mvL
    rw [if_neg (by omega), if_neg (by omega)]
  · unfold mvL
    by_cases h3 : k < t ∧ t ≤ mm
    · rw [if_pos h3]; exact ⟨t - 1, by omega, by omega, rfl⟩
    · rw [if_neg h3]
      by_cases h4 : t = k
      · rw [if_pos h4]; exact ⟨mm, by omega, by omega, rfl⟩
      · rw [if_neg h4]; exact ⟨t, ht1, ht2, rfl⟩
theorem mvL_srt {x : Nat → Ent} {a mm i : Nat} (hs : Srt x a mm) (h1 : a ≤ i) (h2 : i ≤ mm) (hl : i = a ∨ lt (x mm) (x (i - 1)) = false) (hr : i = mm ∨ lt (x mm) (x i) = true) : Srt (mvL x mm i) a (mm + 1) := by
  intro t u h3 h4 h5
  unfold mvL
  by_cases c1 : i < u ∧ u ≤ mm
  · rw [if_pos c1]
    by_cases c2 : i < t ∧ t ≤ mm
    · rw [if_pos c2]; exact hs _ _ (by omega) (by omega) (by omega)
    · rw [if_neg c2]
      by_cases c3 : t = i
      · rw [if_pos c3]
        rcases hr with hr | hr
        · omega
        · exact ge_trans (lt_asymm hr) (hs.le (i := i) (j := u - 1) (by omega) (by omega) (by omega))
      · rw [if_neg c3]; exact hs.le (by omega) (by omega) (by omega)
  · rw [if_neg c1]
    by_cases c2 : u = i
    · rw [if_pos c2, if_neg (by omega), if_neg (by omega)]
      rcases hl with hl | hl
      · omega
      · exact ge_trans (hs.le (i := t) (j := i - 1) (by omega) (by omega) (by omega)) hl
    · rw [if_neg c2, if_neg (by omega), if_neg (by omega)]
      exact hs _ _ (by omega) (by omega) (by omega)

set_option maxRecDepth 100000 in
set_option maxHeartbeats 1000000 in
theorem symB (g m n c a mm : Nat) (x : Nat → Ent) (w : World) (hn : n ≤ 1048576) (hr : Row w g m n x) (h2 : a + 1 < mm) (h3 : mm + 1 ≤ n) (hs : Srt x a mm) :
    Calls Yba.prog 34 #[.slice (some ⟨g, 0, none⟩) n c, .int .i64 a, .int .i64 mm, .int .i64 (mm + 1 : Nat), fn11] w fun e w' => e = .returned (.tuple #[]) ∧ Only g w w' ∧ ∃ y, Row w' g m n y ∧ Kept x y a (mm + 1) ∧ Srt y a (mm + 1) := by
  have e0 : (wrap64 ((mm : Int) - (a : Int)) == 1) = false := by rw [sub64 (by omega) (by omega)]; simp; omega
  obtain ⟨b, hb⟩ : ∃ b, b = mm + 1 := ⟨_, rfl⟩
  rw [← hb]
  have e1 : wrap64 ((b : Int) - (mm : Int)) = 1 := by rw [sub64 (by omega) (by omega), hb]; omega
  have HR := show Hid _ from hr
  have HA := show Hid _ from And.intro hn (And.intro h2 (And.intro h3 (And.intro hs hb)))
  unfold fn11
  clear hr hn h2 h3 hs hb
  go_enter Yba.func34, Yba.ntmps34
  go_wp2_with fail
  clear e1 e0
  go_loopg [14, 15] b (fun gh s14 s15 wr => ∃ i j : Nat, j - i ≤ gh ∧ s14 = .int .i64 i ∧ s15 = .int .i64 j ∧ Hid (a ≤ i ∧ i ≤ j ∧ j ≤ mm ∧ (i = a ∨ lt (x mm) (x (i - 1)) = false) ∧ (j = mm ∨ lt (x mm) (x j) = true)) ∧ Hid (Row wr g m n x) ∧ Hid (Only g w wr))
  case atStart =>
    have hA := HA.out
    exact ⟨a, mm, by omega, rfl, rfl, show Hid _ from ⟨by omega, by omega, by omega, .inl rfl, .inl rfl⟩, HR, show Hid _ from Only.refl _ _⟩
  case round =>
    clear HR
    rename_i Kx hKx J1 J2 J3 J4
    have HK := show Hid _ from hKx
    clear hKx
    obtain ⟨i, j, hg, rfl, rfl, HB, HRW, HO⟩ := hrel
    have hA := HA.out
    have hB := HB.out
    by_cases hlt : i < j
    · have hmm : mm < n := by omega
      have hjn : j ≤ n := by omega
      obtain ⟨h, eh, eh1, hih, hhj, hh⟩ := mid64 hlt hjn hA.1
      obtain ⟨a0, a1, a2⟩ := Row.cells HRW.out hmm
      obtain ⟨b0, b1, b2⟩ := Row.cells HRW.out hh
      have HH := show Hid _ from And.intro hg (And.intro hih hhj)
      have hgl : g < wr.heap.size := Row.lt HRW.out
      clear hA hB hg hih hhj
      cases hl : lt (x mm) (x h)
      · have hl' : decide (cmp (x mm).1 (x h).1 < 0) = false := hl
        go_wp2_with fail
        rw [eh]
        go_region_held3 (fun V => V.cell? ⟨g, mm * 3, none⟩ = some (.string (x mm).1) ∧ V.cell? ⟨g, mm * 3 + 1, none⟩ = some (.int .i64 (x mm).2.1) ∧ V.cell? ⟨g, mm * 3 + 2, none⟩ = some (.int .u64 (x mm).2.2) ∧ V.cell? ⟨g, h * 3, none⟩ = some (.string (x h).1) ∧ V.cell? ⟨g, h * 3 + 1, none⟩ = some (.int .i64 (x h).2.1) ∧ V.cell? ⟨g, h * 3 + 2, none⟩ = some (.int .u64 (x h).2.2)) (go_keep) (first
            | (go_at_call 11; refine Calls.mono (cmp11 (x mm) (x h) _) ?_; rintro e w1 ⟨rfl, hb1⟩; have hr1 := Row.below (Row.drew HRW.out) hb1; obtain ⟨p0, p1, p2⟩ := hr1.cells hmm; obtain ⟨q0, q1, q2⟩ := hr1.cells hh))
        go_wp2_with fail
        have HE := show Hid _ from And.intro eh eh1
        clear eh eh1
        go_roundg (j - (h + 1))
        case measure => have := HH.out; omega
        case rel =>
          have hB := HB.out
          have hH := HH.out
          exact ⟨h + 1, j, Nat.le_refl _, by first | rfl | (rw [HE.out.2]) | (rw [HE.out.1, HE.out.2]), rfl, show Hid _ from ⟨by omega, by omega, by omega, .inr hl, hB.2.2.2.2⟩, show Hid _ from hr1, show Hid _ from Only.trans (Only.drew HO.out) (Only.below hb1 hgl)⟩
      · have hl' : decide (cmp (x mm).1 (x h).1 < 0) = true := hl
        go_wp2_with fail
        rw [eh]
        go_region_held3 (fun V => V.cell? ⟨g, mm * 3, none⟩ = some (.string (x mm).1) ∧ V.cell? ⟨g, mm * 3 + 1, none⟩ = some (.int .i64 (x mm).2.1) ∧ V.cell? ⟨g, mm * 3 + 2, none⟩ = some (.int .u64 (x mm).2.2) ∧ V.cell? ⟨g, h * 3, none⟩ = some (.string (x h).1) ∧ V.cell? ⟨g, h * 3 + 1, none⟩ = some (.int .i64 (x h).2.1) ∧ V.cell? ⟨g, h * 3 + 2, none⟩ = some (.int .u64 (x h).2.2)) (go_keep) (first
            | (go_at_call 11; refine Calls.mono (cmp11 (x mm) (x h) _) ?_; rintro e w1 ⟨rfl, hb1⟩; have hr1 := Row.below (Row.drew HRW.out) hb1; obtain ⟨p0, p1, p2⟩ := hr1.cells hmm; obtain ⟨q0, q1, q2⟩ := hr1.cells hh))
        go_wp2_with fail
        have HE := show Hid _ from And.intro eh eh1
        clear eh eh1
        go_roundg (h - i)
        case measure => have := HH.out; omega
        case rel =>
          have hB := HB.out
          have hH := HH.out
          exact ⟨i, h, Nat.le_refl _, rfl, rfl, show Hid _ from ⟨hB.1, by omega, by omega, hB.2.2.2.1, .inr hl⟩, show Hid _ from hr1, show Hid _ from Only.trans (Only.drew HO.out) (Only.below hb1 hgl)⟩
    · obtain rfl : i = j := by omega
      clear hA hB hg
      go_wp2_with fail
      refine HK.out _ _ ?_
      go_wp2_with fail
      go_loopg [17] mm (fun gh s17 wv => ∃ k : Nat, k - i ≤ gh ∧ s17 = .int .i64 k ∧ Hid (i ≤ k ∧ k ≤ mm) ∧ Hid (Row wv g m n (mvL x mm k)) ∧ Hid (Only g w wv))
      case atStart =>
        have hA := HA.out
        have hB := HB.out
        exact ⟨mm, by omega, rfl, show Hid _ from ⟨by omega, Nat.le_refl _⟩, show Hid _ from Row.eq HRW.out (mvL_start x mm), HO⟩
      case round =>
        obtain ⟨k, hg, rfl, HB2, HRV, HO2⟩ := hrel
        have hA := HA.out
        have hB := HB.out
        have hB2 := HB2.out
        by_cases hlt2 : i < k
        · have hkn : k < n := by omega
          have hk0 : 0 < k := by omega
          obtain ⟨k1, HK1, ek1', hk1n⟩ := pre64 (i := k) (n := n) hk0 (by omega) hA.1
          have HE := show Hid _ from ek1'
          clear ek1'
          have hk1 : k ≠ k1 := by have := HK1.out; omega
          obtain ⟨a0, a1, a2⟩ := Row.cells HRV.out hkn
          obtain ⟨b0, b1, b2⟩ := Row.cells HRV.out hk1n
          have f0 := Row.frozen HRV.out (k * 3)
          have f1 := Row.frozen HRV.out (k * 3 + 1)
          have f2 := Row.frozen HRV.out (k * 3 + 2)
          have g0 := Row.frozen HRV.out (k1 * 3)
          have g1 := Row.frozen HRV.out (k1 * 3 + 1)
          have g2 := Row.frozen HRV.out (k1 * 3 + 2)
          obtain ⟨n1, n2, n3, n4, n5, n6, n7⟩ := apart3 hk1
          obtain ⟨m1, m2, m3, m4, m5, m6, m7⟩ := apart3 (fun e => hk1 e.symm)
          have HH := show Hid _ from And.intro hg (And.intro hB2 hk0)
          clear hA hB hB2 hg hk0
          have ek1' := HE.out
          go_wp2_with fail
          go_big_region
          go_wp2_with fail
          clear ek1'
          go_roundg (k1 - i)
          case measure => have := HH.out; have := HK1.out; omega
          case rel =>
            have hH := HH.out
            have h1 := Row.swap HRV.out k k1 hk1
            have h2 := HK1.out
            obtain ⟨z, rfl⟩ : ∃ z, k = z + 1 := ⟨k - 1, by omega⟩
            simp only [Nat.add_sub_cancel] at h2
            subst h2
            exact ⟨k1, Nat.le_refl _, by first | rfl | (rw [HE.out]), show Hid _ from ⟨by omega, by omega⟩, show Hid _ from Row.eq h1 (mvL_step x hH.2.1.2), show Hid _ from (Only.drew (Only.put (Only.put HO2.out (k1 + 1) _) k1 _))⟩
        · obtain rfl : k = i := by omega
          clear hA hB hB2 hg
          go_wp2_with fail
          refine bodyPost_ret (results_none rfl _ _ _) rfl ?_
          have hA := HA.out
          have hB := HB.out
          obtain ⟨c1, c2, c3, c4, c5⟩ := hA
          subst c5
          exact ⟨rfl, HO2.out, _, HRV.out, mvL_kept x (by omega) (by omega), mvL_srt c4 (by omega) (by omega) hB.2.2.2.1 hB.2.2.2.2⟩
end Go.Proofs.Ybulkexnoq
