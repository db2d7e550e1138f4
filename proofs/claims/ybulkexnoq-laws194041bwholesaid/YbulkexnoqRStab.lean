import Derived.Test.YbulkexnoqRIns
namespace Go.Proofs.Ybulkexnoq
open Go.RowKit
set_option linter.unusedVariables false
set_option linter.unusedSimpArgs false

/-- Every block of bs elements is sorted. -/
def Bl (y : Nat → Ent) (bs n : Nat) : Prop := ∀ q, Srt y (q * bs) (min ((q + 1) * bs) n)
/-- The first k blocks of bs elements are sorted. -/
def Fst (y : Nat → Ent) (bs k : Nat) : Prop := ∀ q, q < k → Srt y (q * bs) ((q + 1) * bs)
/-- The blocks from the j'th on are sorted. -/
def Lst (y : Nat → Ent) (bs j n : Nat) : Prop := ∀ q, j ≤ q → Srt y (q * bs) (min ((q + 1) * bs) n)

theorem mul_lt {q k bs : Nat} (h : q < k) : (q + 1) * bs ≤ k * bs := Nat.mul_le_mul_right _ h
theorem Fst.step {y z : Nat → Ent} {bs k a b : Nat} (h : Fst y bs k) (ha : a = k * bs) (hb : b = a + bs) (hk : Kept y z a b) (hs : Srt z a b) : Fst z bs (k + 1) := fun q hq => by
  by_cases e : q = k
  · subst e
    rw [show (q + 1) * bs = b by rw [hb, ha, Nat.add_mul, Nat.one_mul], ← ha]
    exact hs
  · have := mul_lt (bs := bs) (show q < k by omega)
    exact (h q (by omega)).congr fun t _ t2 => hk.1 t (by omega)
theorem Fst.last {y z : Nat → Ent} {bs k a n : Nat} (h : Fst y bs k) (ha : a = k * bs) (hn : a ≤ n) (hn2 : n ≤ a + bs) (hk : Kept y z a n) (hs : Srt z a n) : Bl z bs n := fun q => by
  by_cases e : q < k
  · have := mul_lt (bs := bs) e
    rw [Nat.min_eq_left (by omega)]
    exact (h q e).congr fun t _ t2 => hk.1 t (by omega)
  · by_cases e2 : q = k
    · subst e2
      rw [← ha]
      exact hs.sub (Nat.le_refl _) (Nat.min_le_right _ _)
    · have h1 := mul_lt (bs := bs) (show k < q by omega)
      have h2 : (k + 1) * bs = k * bs + bs := by rw [Nat.add_mul, Nat.one_mul]
      intro i j i1 i2 i3
      have := Nat.lt_of_lt_of_le i3 (Nat.min_le_right _ _)
      omega
theorem Bl.lst {y : Nat → Ent} {bs n : Nat} (h : Bl y bs n) : Lst y bs 0 n := fun q _ => h q

/-- One merge of two neighbours. -/
theorem pair_srt {y : Nat → Ent} {bs k n a : Nat} (h : Lst y bs (2 * k) n) (ha : a = k * (2 * bs)) (hn : a + 2 * bs ≤ n) : Srt y a (a + bs) ∧ Srt y (a + bs) (a + 2 * bs) := by
  have e1 : 2 * k * bs = a := by rw [ha, Nat.mul_comm 2 k, Nat.mul_assoc]
  have e2 : (2 * k + 1) * bs = a + bs := by rw [Nat.add_mul, Nat.one_mul, e1]
  have e3 : (2 * k + 1 + 1) * bs = a + 2 * bs := by rw [Nat.add_mul, Nat.one_mul, e2]; omega
  have h1 := h (2 * k) (Nat.le_refl _)
  have h2 := h (2 * k + 1) (by omega)
  rw [e1, e2, Nat.min_eq_left (by omega)] at h1
  rw [e2, e3, Nat.min_eq_left (by omega)] at h2
  exact ⟨h1, h2⟩
theorem pair_end {y : Nat → Ent} {bs k n a : Nat} (h : Lst y bs (2 * k) n) (ha : a = k * (2 * bs)) (hn : a + bs ≤ n) (hn2 : n ≤ a + 2 * bs) : Srt y a (a + bs) ∧ Srt y (a + bs) n := by
  have e1 : 2 * k * bs = a := by rw [ha, Nat.mul_comm 2 k, Nat.mul_assoc]
  have e2 : (2 * k + 1) * bs = a + bs := by rw [Nat.add_mul, Nat.one_mul, e1]
  have e3 : (2 * k + 1 + 1) * bs = a + 2 * bs := by rw [Nat.add_mul, Nat.one_mul, e2]; omega
  have h1 := h (2 * k) (Nat.le_refl _)
  have h2 := h (2 * k + 1) (by omega)
  rw [e1, e2, Nat.min_eq_left (by omega)] at h1
  rw [e2, e3, Nat.min_eq_right (by omega)] at h2
  exact ⟨h1, h2⟩
theorem pair_one {y : Nat → Ent} {bs k n a : Nat} (h : Lst y bs (2 * k) n) (ha : a = k * (2 * bs)) (hn : n ≤ a + bs) : Srt y a n := by
  have e1 : 2 * k * bs = a := by rw [ha, Nat.mul_comm 2 k, Nat.mul_assoc]
  have e2 : (2 * k + 1) * bs = a + bs := by rw [Nat.add_mul, Nat.one_mul, e1]
  have h1 := h (2 * k) (Nat.le_refl _)
  rw [e1, e2, Nat.min_eq_right (by omega)] at h1
  exact h1
theorem Lst.step {y z : Nat → Ent} {bs k n a b : Nat} (h : Lst y bs (2 * k) n) (ha : a = k * (2 * bs)) (hb : b = a + 2 * bs) (hk : Kept y z a b) : Lst z bs (2 * (k + 1)) n := fun q hq => by
  have e1 : 2 * (k + 1) * bs = b := by rw [hb, ha, Nat.mul_comm 2 (k + 1), Nat.mul_assoc, Nat.add_mul, Nat.one_mul]
  have e2 : 2 * (k + 1) * bs ≤ q * bs := Nat.mul_le_mul_right _ hq
  exact (h q (by omega)).congr fun t t1 _ => hk.1 t (by omega)

theorem dbl64 {z : Nat} (h : z ≤ 4194304) : wrap64 (2 * (z : Int)) = ((2 * z : Nat) : Int) ∧ wrap64 ((z : Int) * 2) = ((2 * z : Nat) : Int) := by
  constructor
  · rw [w64 (by omega) (by omega)]; omega
  · rw [w64 (by omega) (by omega)]; omega

set_option maxRecDepth 100000 in
set_option maxHeartbeats 1000000 in
theorem stable_any (g m n c : Nat) (x : Nat → Ent) (w : World) (hn : n ≤ 1048576) (hr : Row w g m n x) :
    Calls Yba.prog 26 #[.slice (some ⟨g, 0, none⟩) n c, .int .i64 n, fn11] w fun e w' => e = .returned (.tuple #[]) ∧ Only g w w' ∧ ∃ y, Row w' g m n y ∧ Srt y 0 n := by
  have HR := show Hid _ from hr
  have HN := show Hid _ from hn
  unfold fn11
  clear hr hn
  go_enter Yba.func26, Yba.ntmps26
  go_wp2_with fail
  go_loopg [7, 8] (n + 1) (fun gh s7 s8 wr => ∃ k a b : Nat, ∃ y, n + 1 - b ≤ gh ∧ s7 = .int .i64 a ∧ s8 = .int .i64 b ∧ Hid (a = k * 20 ∧ b = a + 20 ∧ a ≤ n ∧ Fst y 20 k) ∧ Hid (Row wr g m n y) ∧ Hid (Only g w wr))
  case atStart => exact ⟨0, 0, 20, x, by omega, rfl, rfl, show Hid _ from ⟨by omega, by omega, by omega, fun q hq => by omega⟩, HR, show Hid _ from Only.refl _ _⟩
  case round =>
    clear HR
    rename_i Kx hKx J1 J2 J3 J4
    have HK := show Hid _ from hKx
    clear hKx
    obtain ⟨k, a, b, y, hg, rfl, rfl, HB, HRW, HO⟩ := hrel
    have hn := HN.out
    have hB := HB.out
    by_cases hlt : b ≤ n
    · have hc := insert_any g m n c a b y wr hn HRW.out (by omega) hlt
      have HC := show Hid _ from hc
      unfold fn11 at HC
      have eb : wrap64 ((b : Int) + 20) = ((b + 20 : Nat) : Int) := by rw [w64 (by omega) (by omega)]; rfl
      have HH := show Hid _ from And.intro hg eb
      clear hc hn hB hg eb
      go_wp2_with fail
      refine Calls.mono HC.out ?_
      rintro e w' ⟨rfl, ho', z, hz, hk, hs⟩
      dsimp only
      have eb := HH.out.2
      go_wp2_with fail
      clear eb
      go_roundg (n + 1 - (b + 20))
      case measure => have := HH.out.1; omega
      case rel =>
        obtain ⟨q1, q2, q3, q4⟩ := HB.out
        exact ⟨k + 1, b, b + 20, z, Nat.le_refl _, rfl, by first | rfl | (rw [HH.out.2]), show Hid _ from ⟨by omega, rfl, hlt, q4.step q1 q2 hk hs⟩, show Hid _ from hz, show Hid _ from Only.trans HO.out ho'⟩
    · have hc := insert_any g m n c a n y wr hn HRW.out hB.2.2.1 (Nat.le_refl _)
      have HC := show Hid _ from hc
      unfold fn11 at HC
      have HH := show Hid _ from hlt
      clear hc hn hB hg
      go_wp2_with fail
      refine HK.out _ _ ?_
      go_wp2_with fail
      refine Calls.mono HC.out ?_
      rintro e w' ⟨rfl, ho', z, hz, hk, hs⟩
      have hbl : Bl z 20 n := by
        obtain ⟨q1, q2, q3, q4⟩ := HB.out
        exact q4.last q1 q3 (by omega) hk hs
      have HZ := show Hid _ from And.intro hz (And.intro hbl (Only.trans HO.out ho'))
      clear hz hk hs hbl ho'
      dsimp only
      go_wp2_with fail
      go_loopg [6] n (fun gh s6 wv => ∃ bs : Nat, ∃ u, n - bs ≤ gh ∧ s6 = .int .i64 bs ∧ Hid (0 < bs ∧ (bs ≤ 2 * n ∨ bs = 20) ∧ Bl u bs n) ∧ Hid (Row wv g m n u) ∧ Hid (Only g w wv))
      case atStart => exact ⟨20, z, by omega, rfl, show Hid _ from ⟨by omega, .inr rfl, HZ.out.2.1⟩, show Hid _ from HZ.out.1, show Hid _ from HZ.out.2.2⟩
      case round =>
        clear HZ HB HRW HO HC
        obtain ⟨bs, u, hg2, rfl, HB2, HRV, HO2⟩ := hrel
        have hn := HN.out
        have hB2 := HB2.out
        by_cases hbn : bs < n
        · have ed := dbl64 (z := bs) (by omega)
          obtain ⟨D, hD⟩ : ∃ D, D = 2 * bs := ⟨_, rfl⟩
          rw [← hD] at ed
          have HED := show Hid _ from And.intro ed hD
          have HH2 := show Hid _ from hg2
          clear hn hB2 hg2 hD
          obtain ⟨ed1, ed2⟩ := ed
          go_wp2_with fail
          try rw [ed1]
          clear ed1 ed2
          go_loopg [7, 8] (n + 1) (fun gh s7 s8 wq => ∃ k a b : Nat, ∃ y, n + 1 - b ≤ gh ∧ s7 = .int .i64 a ∧ s8 = .int .i64 b ∧ Hid (a = k * (2 * bs) ∧ b = a + 2 * bs ∧ a ≤ n ∧ Fst y (2 * bs) k ∧ Lst y bs (2 * k) n) ∧ Hid (Row wq g m n y) ∧ Hid (Only g w wq))
          case atStart =>
            have hD := HED.out.2
            exact ⟨0, 0, D, u, by omega, rfl, rfl, show Hid _ from ⟨by omega, by omega, by omega, fun q hq => by omega, Bl.lst HB2.out.2.2⟩, HRV, HO2⟩
          case round =>
            rename_i Ky hKy L1 L2 L3 L4
            have HKY := show Hid _ from hKy
            clear hKy
            obtain ⟨k, a, b, y, hg3, rfl, rfl, HB3, HRQ, HO3⟩ := hrel
            have hn := HN.out
            have hB2 := HB2.out
            have hB3 := HB3.out
            have hD := HED.out.2
            obtain ⟨mm, hmm⟩ : ∃ mm, mm = a + bs := ⟨_, rfl⟩
            have em : wrap64 ((a : Int) + (bs : Int)) = (mm : Int) := by rw [add64 (by omega), hmm]
            have HEM := show Hid _ from em
            clear em
            by_cases hlt3 : b ≤ n
            · have hp := pair_srt hB3.2.2.2.2 hB3.1 (by omega)
              have hc := sym_any g m n c hn (b - a) a mm b y wr (Nat.le_refl _) (by omega) (by omega) hlt3 HRQ.out (by rw [hmm]; exact hp.1) (by rw [hmm, hB3.2.1]; exact hp.2)
              have HC := show Hid _ from hc
              unfold fn11 at HC
              have eb : wrap64 ((b : Int) + (D : Int)) = ((b + D : Nat) : Int) := add64 (by omega)
              have HH3 := show Hid _ from And.intro hg3 eb
              clear hc hn hB2 hB3 hD hp hg3 eb hmm
              have em := HEM.out
              go_wp2_with fail
              refine Calls.mono HC.out ?_
              rintro e w' ⟨rfl, ho', z, hz, hk, hs⟩
              dsimp only
              have eb := HH3.out.2
              obtain ⟨ed1, ed2⟩ := HED.out.1
              go_wp2_with fail
              clear eb em ed1 ed2
              go_roundg (n + 1 - (b + D))
              case measure => have := HH3.out.1; have := HB2.out; have := HED.out.2; omega
              case rel =>
                obtain ⟨q1, q2, q3, q4, q5⟩ := HB3.out
                have hD := HED.out.2
                have e1 : b = (k + 1) * (2 * bs) := by rw [q2, q1, Nat.add_mul, Nat.one_mul]
                exact ⟨k + 1, b, b + D, z, Nat.le_refl _, rfl, by first | rfl | (rw [HH3.out.2]) | (rw [HED.out.1.1, HH3.out.2]), show Hid _ from ⟨e1, by rw [hD], hlt3, q4.step q1 q2 hk hs, q5.step q1 q2 hk⟩, show Hid _ from hz, show Hid _ from Only.trans HO3.out ho'⟩
            · by_cases hmn : mm < n
              · have hp := pair_end hB3.2.2.2.2 hB3.1 (by omega) (by omega)
                have hc := sym_any g m n c hn (n - a) a mm n y wr (Nat.le_refl _) (by omega) hmn (Nat.le_refl _) HRQ.out (by rw [hmm]; exact hp.1) (by rw [hmm]; exact hp.2)
                have HC := show Hid _ from hc
                unfold fn11 at HC
                clear hc hn hB2 hB3 hD hp hg3 hmm
                go_wp2_with fail
                refine HKY.out _ _ ?_
                have em := HEM.out
                obtain ⟨ed1, ed2⟩ := HED.out.1
                go_wp2_with fail
                refine Calls.mono HC.out ?_
                rintro e w' ⟨rfl, ho', z, hz, hk, hs⟩
                dsimp only
                go_wp2_with fail
                clear em ed1 ed2
                go_roundg (n - D)
                case measure => have := HH2.out; have := HB2.out; have := HED.out.2; omega
                case rel =>
                  obtain ⟨q1, q2, q3, q4, q5⟩ := HB3.out
                  have hD := HED.out.2
                  have hB2 := HB2.out
                  exact ⟨D, z, Nat.le_refl _, by first | rfl | (rw [HED.out.1.2]), show Hid _ from ⟨by omega, .inl (by omega), by rw [hD]; exact q4.last q1 q3 (by omega) hk hs⟩, show Hid _ from hz, show Hid _ from Only.trans HO3.out ho'⟩
              · have hp := pair_one hB3.2.2.2.2 hB3.1 (by omega)
                have HP := show Hid _ from hp
                clear hn hB2 hB3 hD hp hg3 hmm
                go_wp2_with fail
                refine HKY.out _ _ ?_
                have em := HEM.out
                obtain ⟨ed1, ed2⟩ := HED.out.1
                go_wp2_with fail
                clear em ed1 ed2
                go_roundg (n - D)
                case measure => have := HH2.out; have := HB2.out; have := HED.out.2; omega
                case rel =>
                  obtain ⟨q1, q2, q3, q4, q5⟩ := HB3.out
                  have hD := HED.out.2
                  have hB2 := HB2.out
                  exact ⟨D, y, Nat.le_refl _, by first | rfl | (rw [HED.out.1.2]), show Hid _ from ⟨by omega, .inl (by omega), by rw [hD]; exact q4.last q1 q3 (by omega) (Kept.refl _ _ _) HP.out⟩, HRQ, HO3⟩
        · clear hn hB2 hg2
          go_wp2_with fail
          go_end0
          have hB2 := HB2.out
          refine ⟨rfl, HO2.out, u, HRV.out, ?_⟩
          have := hB2.2.2 0
          rw [Nat.zero_mul, Nat.zero_add, Nat.one_mul, Nat.min_eq_right (by omega)] at this
          exact this
end Go.Proofs.Ybulkexnoq
