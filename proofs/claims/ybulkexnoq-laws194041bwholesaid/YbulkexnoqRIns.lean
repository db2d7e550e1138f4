import Derived.Test.YbulkexnoqRSymD
namespace Go.Proofs.Ybulkexnoq
open Go.RowKit
set_option linter.unusedVariables false
set_option linter.unusedSimpArgs false

/-- Sorted on [a,i], but for place j, which may be too small. -/
def Ins (y : Nat → Ent) (a i j : Nat) : Prop := ∀ p q, a ≤ p → p < q → q ≤ i → q ≠ j → lt (y q) (y p) = false
theorem Ins.start {y : Nat → Ent} {a i : Nat} (h : Srt y a i) : Ins y a i i := fun p q h1 h2 h3 h4 => h p q h1 h2 (by omega)
theorem Ins.done {y : Nat → Ent} {a i j : Nat} (h : Ins y a i j) (hj : j ≤ i) (hd : j = a ∨ (a < j ∧ lt (y j) (y (j - 1)) = false)) : Srt y a (i + 1) := fun p q h1 h2 h3 => by
  by_cases e : q = j
  · subst e
    rcases hd with hd | ⟨hd1, hd2⟩
    · omega
    · by_cases e2 : p = q - 1
      · rw [e2]; exact hd2
      · exact ge_trans (h p (q - 1) h1 (by omega) (by omega) (by omega)) hd2
  · exact h p q h1 h2 (by omega) e
theorem Ins.step {y : Nat → Ent} {a i j : Nat} (h : Ins y a i (j + 1)) (hj : j + 1 ≤ i) (ha : a ≤ j) (hl : lt (y (j + 1)) (y j) = true) : Ins (swp y (j + 1) j) a i j := fun p q h1 h2 h3 h4 => by
  have v1 : swp y (j + 1) j (j + 1) = y j := by unfold swp; rw [if_pos rfl]
  have v2 : swp y (j + 1) j j = y (j + 1) := by unfold swp; rw [if_neg (by omega), if_pos rfl]
  have v3 : ∀ t, t ≠ j + 1 → t ≠ j → swp y (j + 1) j t = y t := fun t t1 t2 => by unfold swp; rw [if_neg t1, if_neg t2]
  by_cases e : q = j + 1
  · subst e
    rw [v1]
    by_cases e2 : p = j
    · rw [e2, v2]; exact lt_asymm hl
    · rw [v3 p (by omega) e2]
      exact h p j h1 (by omega) (by omega) (by omega)
  · rw [v3 q e h4]
    by_cases e2 : p = j + 1
    · rw [e2, v1]
      exact h j q ha (by omega) h3 e
    · by_cases e3 : p = j
      · rw [e3, v2]
        exact h (j + 1) q (by omega) (by omega) h3 e
      · rw [v3 p e2 e3]
        exact h p q h1 h2 h3 e
theorem swp_kept (y : Nat → Ent) {a b i j : Nat} (h1 : a ≤ i ∧ i < b) (h2 : a ≤ j ∧ j < b) : Kept y (swp y i j) a b := by
  refine ⟨fun t ht => ?_, fun t t1 t2 => ?_⟩
  · unfold swp; rw [if_neg (by omega), if_neg (by omega)]
  · unfold swp
    by_cases c1 : t = i
    · rw [if_pos c1]; exact ⟨j, h2.1, h2.2, rfl⟩
    · rw [if_neg c1]
      by_cases c2 : t = j
      · rw [if_pos c2]; exact ⟨i, h1.1, h1.2, rfl⟩
      · rw [if_neg c2]; exact ⟨t, t1, t2, rfl⟩

theorem wrap_succ' {i : Nat} (h : i ≤ 2097152) : wrap64 ((i : Int) + 1) = ((i + 1 : Nat) : Int) := by rw [w64 (by omega) (by omega)]; rfl

set_option maxRecDepth 100000 in
set_option maxHeartbeats 1000000 in
theorem insert_any (g m n c a b : Nat) (x : Nat → Ent) (w : World) (hn : n ≤ 1048576) (hr : Row w g m n x) (hab : a ≤ b) (hb : b ≤ n) :
    Calls Yba.prog 33 #[.slice (some ⟨g, 0, none⟩) n c, .int .i64 a, .int .i64 b, fn11] w fun e w' => e = .returned (.tuple #[]) ∧ Only g w w' ∧ ∃ y, Row w' g m n y ∧ Kept x y a b ∧ Srt y a b := by
  have e1 := wrap_succ' (i := a) (by omega)
  have HR := show Hid _ from hr
  have HA := show Hid _ from And.intro hn (And.intro hab hb)
  unfold fn11
  clear hr hn hab hb
  go_enter Yba.func33, Yba.ntmps33
  go_wp2_with fail
  try rw [e1]
  go_loopg [8] (b + 1) (fun gh s8 wr => ∃ i : Nat, ∃ y, b + 1 - i ≤ gh ∧ s8 = .int .i64 i ∧ Hid (a + 1 ≤ i ∧ (i ≤ b ∨ i = a + 1) ∧ Srt y a i ∧ Kept x y a b) ∧ Hid (Row wr g m n y) ∧ Hid (Only g w wr))
  case atStart =>
    have hA := HA.out
    exact ⟨a + 1, x, by omega, by first | rfl | (rw [e1]), show Hid _ from ⟨Nat.le_refl _, .inr rfl, fun p q h1 h2 h3 => by omega, Kept.refl _ _ _⟩, HR, show Hid _ from Only.refl _ _⟩
  case round =>
    clear HR e1
    obtain ⟨i, y0, hg, rfl, HB, HRW, HO⟩ := hrel
    have hA := HA.out
    have hB := HB.out
    by_cases hlt : i < b
    · have HH := show Hid _ from And.intro hg hlt
      clear hA hB hg
      go_wp2_with fail
      go_loopg [9] (i + 1) (fun gh s9 wv => ∃ j : Nat, ∃ y, j + 1 - a ≤ gh ∧ s9 = .int .i64 j ∧ Hid (a ≤ j ∧ j ≤ i ∧ Ins y a i j ∧ Kept x y a b) ∧ Hid (Row wv g m n y) ∧ Hid (Only g w wv))
      case atStart =>
        have hB := HB.out
        exact ⟨i, y0, by omega, rfl, show Hid _ from ⟨by omega, Nat.le_refl _, Ins.start hB.2.2.1, hB.2.2.2⟩, HRW, HO⟩
      case round =>
        rename_i Ky hKy L1 L2 L3 L4
        have HKY := show Hid _ from hKy
        clear hKy
        obtain ⟨j, y, hg2, rfl, HB2, HRV, HO2⟩ := hrel
        have hA := HA.out
        have hB := HB.out
        have hB2 := HB2.out
        have hH := HH.out
        have ei := wrap_succ' (i := i) (by omega)
        have HEI := show Hid _ from ei
        clear ei
        have hgl := Row.lt (rowI HRV.out)
        by_cases hja : a < j
        · have hj : j < n := by omega
          obtain ⟨z, HZ, ez, hz⟩ := pre64 (i := j) (n := n) (by omega) (by omega) hA.1
          have HEZ := show Hid _ from ez
          clear ez
          have hjz : j ≠ z := by have := HZ.out; omega
          obtain ⟨a0, a1, a2⟩ := Row.cells HRV.out hj
          obtain ⟨b0, b1, b2⟩ := Row.cells HRV.out hz
          have HH2 := show Hid _ from hg2
          clear hA hB hB2 hH hg2
          have ez := HEZ.out
          have ez' : IntKind.i64.wrap ((j : Int) - 1) = (z : Int) := (i64w _).trans ez
          cases hl : lt (y j) (y z)
          · have hl' : decide (cmp (y j).1 (y z).1 < 0) = false := hl
            go_wp2_with fail
            go_region_held3 (fun V => V.cell? ⟨g, j * 3, none⟩ = some (.string (y j).1) ∧ V.cell? ⟨g, j * 3 + 1, none⟩ = some (.int .i64 (y j).2.1) ∧ V.cell? ⟨g, j * 3 + 2, none⟩ = some (.int .u64 (y j).2.2) ∧ V.cell? ⟨g, z * 3, none⟩ = some (.string (y z).1) ∧ V.cell? ⟨g, z * 3 + 1, none⟩ = some (.int .i64 (y z).2.1) ∧ V.cell? ⟨g, z * 3 + 2, none⟩ = some (.int .u64 (y z).2.2)) (go_keep) (first
              | (go_at_call 11; refine Calls.mono (cmp11 (y j) (y z) _) ?_; rintro e w1 ⟨rfl, hb1⟩; have hr1 := Row.below (Row.drew HRV.out) hb1; obtain ⟨p0, p1, p2⟩ := hr1.cells hj; obtain ⟨q0, q1, q2⟩ := hr1.cells hz))
            clear ez ez'
            go_wp2_with fail
            refine HKY.out _ _ ?_
            have ei := HEI.out
            go_wp2_with fail
            clear ei
            go_roundg (b + 1 - (i + 1))
            case measure => have := HH.out; omega
            case rel =>
              have hB2 := HB2.out
              have hH := HH.out
              have hz := HZ.out
              refine ⟨i + 1, y, Nat.le_refl _, by first | rfl | (rw [HEI.out]), show Hid _ from ⟨by have := HB.out; omega, .inl (by omega), Ins.done hB2.2.2.1 hB2.2.1 (.inr ⟨hja, ?_⟩), hB2.2.2.2⟩, show Hid _ from hr1, show Hid _ from Only.trans (Only.drew HO2.out) (Only.below hb1 hgl)⟩
              rw [← hz]
              exact hl
          · have hl' : decide (cmp (y j).1 (y z).1 < 0) = true := hl
            go_wp2_with fail
            go_region_held3 (fun V => V.cell? ⟨g, j * 3, none⟩ = some (.string (y j).1) ∧ V.cell? ⟨g, j * 3 + 1, none⟩ = some (.int .i64 (y j).2.1) ∧ V.cell? ⟨g, j * 3 + 2, none⟩ = some (.int .u64 (y j).2.2) ∧ V.cell? ⟨g, z * 3, none⟩ = some (.string (y z).1) ∧ V.cell? ⟨g, z * 3 + 1, none⟩ = some (.int .i64 (y z).2.1) ∧ V.cell? ⟨g, z * 3 + 2, none⟩ = some (.int .u64 (y z).2.2)) (go_keep) (first
              | (go_at_call 11; refine Calls.mono (cmp11 (y j) (y z) _) ?_; rintro e w1 ⟨rfl, hb1⟩; have hr1 := Row.below (Row.drew HRV.out) hb1; obtain ⟨p0, p1, p2⟩ := hr1.cells hj; obtain ⟨q0, q1, q2⟩ := hr1.cells hz))
            have f0 := hr1.frozen (j * 3)
            have f1 := hr1.frozen (j * 3 + 1)
            have f2 := hr1.frozen (j * 3 + 2)
            have g0 := hr1.frozen (z * 3)
            have g1 := hr1.frozen (z * 3 + 1)
            have g2 := hr1.frozen (z * 3 + 2)
            obtain ⟨n1, n2, n3, n4, n5, n6, n7⟩ := apart3 hjz
            obtain ⟨m1, m2, m3, m4, m5, m6, m7⟩ := apart3 (fun e => hjz e.symm)
            have HR1 := show Hid _ from And.intro hr1 hb1
            clear hr1 hb1 a0 a1 a2 b0 b1 b2
            go_wp2_with fail
            go_big_region
            go_wp2_with fail
            clear ez ez'
            go_roundg (z + 1 - a)
            case measure => have := HH2.out; have := HZ.out; omega
            case rel =>
              have hB2 := HB2.out
              have hH := HH.out
              have hz2 := HZ.out
              have h1 := Row.swap HR1.out.1 j z hjz
              have ho1 := (Only.drew (Only.put (Only.put (Only.trans (Only.drew HO2.out) (Only.below HR1.out.2 hgl)) j (y z)) z (y j)))
              obtain ⟨t, rfl⟩ : ∃ t, j = t + 1 := ⟨j - 1, by omega⟩
              simp only [Nat.add_sub_cancel] at hz2
              subst hz2
              exact ⟨z, _, Nat.le_refl _, by first | rfl | (rw [HEZ.out]), show Hid _ from ⟨by omega, by omega, Ins.step hB2.2.2.1 hB2.2.1 (by omega) hl, hB2.2.2.2.trans (swp_kept y (by omega) (by omega))⟩, show Hid _ from h1, show Hid _ from ho1⟩
        · obtain rfl : j = a := by omega
          clear hA hB hB2 hH hg2
          go_wp2_with fail
          go_quiet (fail)
          go_wp2_with fail
          refine HKY.out _ _ ?_
          have ei := HEI.out
          go_wp2_with fail
          clear ei
          go_roundg (b + 1 - (i + 1))
          case measure => have := HH.out; omega
          case rel =>
            have hB2 := HB2.out
            have hH := HH.out
            exact ⟨i + 1, y, Nat.le_refl _, by first | rfl | (rw [HEI.out]), show Hid _ from ⟨by have := HB.out; omega, .inl (by omega), Ins.done hB2.2.2.1 hB2.2.1 (.inl rfl), hB2.2.2.2⟩, show Hid _ from Row.below HRV.out (below_drewN (Below.refl _ _) _), show Hid _ from Only.trans HO2.out (Only.below (below_drewN (Below.refl _ _) _) hgl)⟩
    · have HH := show Hid _ from And.intro hg hlt
      clear hA hB hg
      go_wp2_with fail
      go_end0
      have hB := HB.out
      have hH := HH.out
      exact ⟨rfl, HO.out, y0, HRW.out, hB.2.2.2, hB.2.2.1.sub (Nat.le_refl _) (by omega)⟩
end Go.Proofs.Ybulkexnoq
