import Derived.Test.YbulkexnoqQDel2
import Derived.Deep.RegionWith
import Derived.Deep.RegionHeld3
namespace Go.Proofs.Ybulkexnoq
open Go.RowKit
set_option linter.unusedVariables false
set_option linter.unusedSimpArgs false

/-- The four numbers of the modelled resources, and the pointer to the named ones. -/
def vec (a b c d : Int) (np : Option Addr) : Value := .agg #[.int .i64 a, .int .u64 b, .int .i64 c, .int .u64 d, .pointer np]

/-- Positive's two boxes: the receiver, and the result. -/
structure Boxes (w : World) (a b c d : Int) (np : Option Addr) (V : World) : Prop where
  bel : Below w.heap.size w V
  siz : w.heap.size + 2 ≤ V.heap.size
  b1 : V.heap[w.heap.size]? = some (.cells #[.int .i64 a, .int .u64 b, .int .i64 c, .int .u64 d, .pointer np] 41 (0, 0))
  b2 : V.heap[w.heap.size + 1]? = some (.cells #[.int .i64 0, .int .u64 0, .int .i64 0, .int .u64 0, .pointer none] 41 (0, 0))

theorem Boxes.start (w : World) (a b c d : Int) (np : Option Addr) : Boxes w a b c d np ((w.alloc (.cells #[.int .i64 a, .int .u64 b, .int .i64 c, .int .u64 d, .pointer np] 41)).alloc (.cells #[.int .i64 0, .int .u64 0, .int .i64 0, .int .u64 0, .pointer none] 41)) := by
  refine ⟨((Below.refl w.heap.size w).alloc (Nat.le_refl _) _).alloc (by simp) _, by simp, ?_, ?_⟩
  · rw [Below.heap_alloc _ _ _ (by simp)]
    exact heap_alloc_new w _
  · have := heap_alloc_new (w.alloc (.cells #[.int .i64 a, .int .u64 b, .int .i64 c, .int .u64 d, .pointer np] 41)) (.cells #[.int .i64 0, .int .u64 0, .int .i64 0, .int .u64 0, .pointer none] 41)
    rw [show (w.alloc (.cells #[.int .i64 a, .int .u64 b, .int .i64 c, .int .u64 d, .pointer np] 41)).heap.size = w.heap.size + 1 by simp] at this
    exact this
theorem Boxes.later {w : World} {a b c d : Int} {np : Option Addr} {V V' : World} (h : Boxes w a b c d np V) (k : Below (w.heap.size + 2) V V') : Boxes w a b c d np V' :=
  ⟨h.bel.trans (k.mono (by omega)), Nat.le_trans h.siz k.size, (k.block _ (by omega)).trans h.b1, (k.block _ (by omega)).trans h.b2⟩
theorem cell_of {w : World} {b i : Nat} {cs : Array Value} {t : TypeId} {v : Value} (h : w.heap[b]? = some (.cells cs t (0, 0))) (hv : cs[i]? = some v) : w.cell? ⟨b, i, none⟩ = some v := by
  simp [World.cell?, h, hv]
theorem frozen_of {w : World} {b : Nat} (i : Nat) {cs : Array Value} {t : TypeId} (h : w.heap[b]? = some (.cells cs t (0, 0))) : w.frozen? ⟨b, i, none⟩ = false := by
  simp [World.frozen?, h]

theorem stored5 {V : World} {B : Nat} {cs : Array Value} (c0 c1 c2 c3 c4 : Value) (h : V.heap[B]? = some (.cells cs 41 (0, 0))) (hs : cs.size = 5) :
    (((((V.setCell ⟨B, 0, none⟩ c0).setCell ⟨B, 1, none⟩ c1).setCell ⟨B, 2, none⟩ c2).setCell ⟨B, 3, none⟩ c3).setCell ⟨B, 4, none⟩ c4).heap[B]? = some (.cells #[c0, c1, c2, c3, c4] 41 (0, 0)) := by
  have hr : V.rowIs B 41 5 (fun i => cs.getD i undef) := ⟨cs, h, hs, fun i hi => by rw [Array.getElem?_eq_getElem (by omega)]; simp [Array.getD, show i < cs.size by omega]⟩
  obtain ⟨c, h1, h2, h3⟩ := (((((hr.set 0 c0).set 1 c1).set 2 c2).set 3 c3).set 4 c4)
  rw [h1]
  obtain ⟨l⟩ := c
  match l, h2 with
  | [z0, z1, z2, z3, z4], _ =>
    have e0 := h3 0 (by omega)
    have e1 := h3 1 (by omega)
    have e2 := h3 2 (by omega)
    have e3 := h3 3 (by omega)
    have e4 := h3 4 (by omega)
    simp at e0 e1 e2 e3 e4
    subst e0 e1 e2 e3 e4
    rfl
theorem bel5 {w V : World} {B : Nat} (c0 c1 c2 c3 c4 : Value) (h : Below w.heap.size w V) (hB : w.heap.size ≤ B) :
    Below w.heap.size w (((((V.setCell ⟨B, 0, none⟩ c0).setCell ⟨B, 1, none⟩ c1).setCell ⟨B, 2, none⟩ c2).setCell ⟨B, 3, none⟩ c3).setCell ⟨B, 4, none⟩ c4) :=
  ((((h.setCell (p := ⟨B, 0, none⟩) hB _).setCell (p := ⟨B, 1, none⟩) hB _).setCell (p := ⟨B, 2, none⟩) hB _).setCell (p := ⟨B, 3, none⟩) hB _).setCell (p := ⟨B, 4, none⟩) hB _

set_option maxRecDepth 100000 in
set_option maxHeartbeats 1000000 in
theorem positive_same (a b c d : Int) (np : Option Addr) (lv : Value) (w : World)
    (hl : ∀ V, Below w.heap.size w V → Calls Yba.prog 23 #[.agg #[.int .i64 a, .int .u64 b, .int .i64 c, .int .u64 d, .pointer np]] V fun e w' => e = .returned lv ∧ Below V.heap.size V w')
    (hc : ∀ V, Below w.heap.size w V → Calls Yba.prog 22 #[lv, fn20] V fun e w' => e = .returned (.bool false) ∧ Below V.heap.size V w') :
    Calls Yba.prog 7 #[vec a b c d np] w fun e w' => e = .returned (vec a b c d np) ∧ Below w.heap.size w w' := by
  have HL := show Hid _ from hl
  have HC := show Hid _ from hc
  have HB0 := show Hid _ from Boxes.start w a b c d np
  clear hl hc
  unfold vec
  go_enter Yba.func7, Yba.ntmps7
  go_wp2_with fail
  refine Calls.mono (HL.out _ HB0.out.bel) ?_
  rintro e w1 ⟨rfl, hb1⟩
  have B1 := Boxes.later HB0.out (hb1.mono HB0.out.siz)
  clear hb1
  dsimp only
  go_wp2_with fail
  refine Calls.mono (HC.out _ B1.bel) ?_
  rintro e w2 ⟨rfl, hb2⟩
  have B2 := Boxes.later B1 (hb2.mono B1.siz)
  clear hb2 B1
  have B := show Hid _ from B2
  have x0 := cell_of (i := 0) B2.b1 rfl
  have x1 := cell_of (i := 1) B2.b1 rfl
  have x2 := cell_of (i := 2) B2.b1 rfl
  have x3 := cell_of (i := 3) B2.b1 rfl
  have x4 := cell_of (i := 4) B2.b1 rfl
  have y0 := cell_of (i := 0) B2.b2 rfl
  have y1 := cell_of (i := 1) B2.b2 rfl
  have y2 := cell_of (i := 2) B2.b2 rfl
  have y3 := cell_of (i := 3) B2.b2 rfl
  have y4 := cell_of (i := 4) B2.b2 rfl
  have f0 := frozen_of 0 B2.b2
  have f1 := frozen_of 1 B2.b2
  have f2 := frozen_of 2 B2.b2
  have f3 := frozen_of 3 B2.b2
  have f4 := frozen_of 4 B2.b2
  clear B2
  dsimp only
  go_wp2_with fail
  refine bodyPost_ret (results_cell_row rfl _ _ (w.heap.size + 1) 41 _ (0, 0) _ rfl (stored5 _ _ _ _ _ B.out.b2 rfl) Yba.underlying41 rfl (by kernel_rfl)) rfl ⟨rfl, ?_⟩
  exact bel5 _ _ _ _ _ B.out.bel (by omega)

theorem Boxes.drew {w : World} {a b c d : Int} {np : Option Addr} {V : World} (h : Boxes w a b c d np V) : Boxes w a b c d np V.drew := h.later ((Below.refl _ _).drew)
theorem byName_one (p : Option Addr) (n c : Nat) (hn : n ≠ 0) (w : World) : Calls Yba.prog 24 #[.slice p n c] w fun e w' => e = .returned (.pointer (some ⟨w.heap.size, 0, none⟩)) ∧ w'.heap[w.heap.size]? = some (.cells #[.slice p n c] 39 (0, 0)) ∧ Below w.heap.size w w' :=
  (byName_some p n c (by omega) w).mono fun e w' ⟨h1, h2⟩ => ⟨h1, by rw [h2]; exact heap_alloc_new w _, by rw [h2]; exact (Below.refl _ _).alloc (Nat.le_refl _) _⟩

/-- What Positive leaves where something is not above 0. -/
def Fresh (w : World) (x : Nat → Ent) (n : Nat) (a b c d : Int) (e : Ending) (w' : World) : Prop :=
  (filt x n = [] ∧ e = .returned (vec a b c d none)) ∨
  (filt x n ≠ [] ∧ ∃ N2 g cap m F, e = .returned (vec a b c d (some ⟨N2, 0, none⟩)) ∧ w.heap.size ≤ N2 ∧ w.heap.size ≤ g ∧ g ≠ N2 ∧ w'.heap[N2]? = some (.cells #[.slice (some ⟨g, 0, none⟩) (filt x n).length cap] 39 (0, 0)) ∧ w'.rowIs g 36 m F ∧ (filt x n).length * 3 ≤ m ∧
    ∀ q, q < (filt x n).length * 3 → F q = cell3 (nth (filt x n)) q)

set_option maxRecDepth 100000 in
set_option maxHeartbeats 1000000 in
theorem positive_some (a b c d : Int) (NP L n c0 : Nat) (x : Nat → Ent) (w : World) (hn0 : 0 < n) (hn : n ≤ 1048576) (hNP : w.cell? ⟨NP, 0, none⟩ = some (.slice (some ⟨L, 0, none⟩) n c0)) (hx : At3 w L 0 n x) (hl : ∀ i, 0 ≤ (x i).2.2)
    (hsome : ∃ k, k < n ∧ pos (x k) = false) :
    Calls Yba.prog 7 #[vec a b c d (some ⟨NP, 0, none⟩)] w fun e w' => Below w.heap.size w w' ∧ Fresh w x n a b c d e w' := by
  have hLlt : L < w.heap.size := World.block_lt_of_cell? w _ (hx 0 hn0).1
  have hNlt : NP < w.heap.size := World.block_lt_of_cell? w _ hNP
  have hlist := fun V (hV : Below w.heap.size w V) => list_some (.int .i64 a) (.int .u64 b) (.int .i64 c) (.int .u64 d) NP _ V (cell_later hV hNP)
  have hcont := fun V (hV : Below w.heap.size w V) => contains_any (some ⟨L, 0, none⟩) n c0 x V hn (.inr ⟨L, 0, rfl, hx.later hV⟩) hl
  have hclone := fun V (hV : Below w.heap.size w V) => clone_any L 0 n c0 x V hn0 hn (hx.later hV) (Nat.lt_of_lt_of_le hLlt hV.size)
  have HL := show Hid _ from hlist
  have HC := show Hid _ from hcont
  have HK := show Hid _ from hclone
  have HB0 := show Hid _ from Boxes.start w a b c d (some ⟨NP, 0, none⟩)
  have HX := show Hid _ from And.intro hl (And.intro hsome hn)
  clear hl hlist hcont hclone hNP hx hsome hn
  unfold vec
  go_enter Yba.func7, Yba.ntmps7
  go_wp2_with fail
  refine Calls.mono (HL.out _ HB0.out.bel) ?_
  rintro e w1 ⟨rfl, hb1⟩
  have B1 := Boxes.later HB0.out (hb1.mono HB0.out.siz)
  clear hb1
  dsimp only
  go_wp2_with fail
  refine Calls.mono (HC.out _ B1.bel) ?_
  rintro e w2 ⟨hb2, ⟨hall, rfl⟩ | ⟨_, rfl⟩⟩
  · obtain ⟨k, hk, hp⟩ := HX.out.2.1
    exact absurd (hall k hk) (by rw [hp]; decide)
  · have B2 := Boxes.later B1 (hb2.mono B1.siz)
    clear hb2 B1
    have HB2 := show Hid _ from B2
    have x0 := cell_of (i := 0) B2.b1 rfl; have x1 := cell_of (i := 1) B2.b1 rfl; have x2 := cell_of (i := 2) B2.b1 rfl; have x3 := cell_of (i := 3) B2.b1 rfl; have x4 := cell_of (i := 4) B2.b1 rfl
    dsimp only
    go_wp2_with fail
    by_cases hf : filt x n = []
    · have hlen : (filt x n).length = 0 := by rw [hf]; rfl
      go_region_held3 (fun V => V.cell? ⟨w.heap.size, 0, none⟩ = some (.int .i64 a) ∧ V.cell? ⟨w.heap.size, 1, none⟩ = some (.int .u64 b) ∧ V.cell? ⟨w.heap.size, 2, none⟩ = some (.int .i64 c) ∧ V.cell? ⟨w.heap.size, 3, none⟩ = some (.int .u64 d) ∧ V.cell? ⟨w.heap.size, 4, none⟩ = some (.pointer (some ⟨NP, 0, none⟩))) (go_keep)
        (first
          | (go_at_call 23; refine Calls.mono (HL.out _ ?_) ?_; · exact B2.bel.drew
             rintro e w3 ⟨rfl, hb3⟩; have B3 := Boxes.later B2.drew (hb3.mono B2.drew.siz); have p0 := cell_of (i := 0) B3.b1 rfl; have p1 := cell_of (i := 1) B3.b1 rfl; have p2 := cell_of (i := 2) B3.b1 rfl; have p3 := cell_of (i := 3) B3.b1 rfl; have p4 := cell_of (i := 4) B3.b1 rfl)
          | (go_at_call 13; refine Calls.mono (HK.out _ ?_) ?_; · exact B3.bel
             rintro e w4 ⟨g, cap, F, rfl, hg, hnc, hcm, hrow, hF, hb4⟩; have B4 := Boxes.later B3 (hb4.mono B3.siz); have q0 := cell_of (i := 0) B4.b1 rfl; have q1 := cell_of (i := 1) B4.b1 rfl; have q2 := cell_of (i := 2) B4.b1 rfl; have q3 := cell_of (i := 3) B4.b1 rfl; have q4 := cell_of (i := 4) B4.b1 rfl)
          | (go_at_call 25; refine Calls.mono (delete_any g (cap * 3) n cap x _ F HX.out.2.2 ?_ hnc hcm hrow hF HX.out.1 HX.out.2.1) ?_; · omega
             rintro e w5 ⟨rfl, hlt5, ⟨F5, hrow5, hF5⟩, hfar5, hb5⟩; have B5 := Boxes.later B4 (hb5.mono (Nat.le_trans B3.siz hg)); have r0 := cell_of (i := 0) B5.b1 rfl; have r1 := cell_of (i := 1) B5.b1 rfl; have r2 := cell_of (i := 2) B5.b1 rfl; have r3 := cell_of (i := 3) B5.b1 rfl; have r4 := cell_of (i := 4) B5.b1 rfl)
          | (go_at_call 24; refine Calls.mono (byName_none _ _ _) ?_; rintro e w6 ⟨rfl, hw6⟩; have B6 : Boxes w a b c d (some ⟨NP, 0, none⟩) w6 := by { rw [hw6]; exact B5 }; have HW6 := show Hid _ from hw6; clear hw6; have t0 := cell_of (i := 0) B6.b1 rfl; have t1 := cell_of (i := 1) B6.b1 rfl; have t2 := cell_of (i := 2) B6.b1 rfl; have t3 := cell_of (i := 3) B6.b1 rfl; have t4 := cell_of (i := 4) B6.b1 rfl; have y0 := cell_of (i := 0) B6.b2 rfl; have y1 := cell_of (i := 1) B6.b2 rfl; have y2 := cell_of (i := 2) B6.b2 rfl; have y3 := cell_of (i := 3) B6.b2 rfl; have y4 := cell_of (i := 4) B6.b2 rfl; have f0 := frozen_of 0 B6.b2; have f1 := frozen_of 1 B6.b2; have f2 := frozen_of 2 B6.b2; have f3 := frozen_of 3 B6.b2; have f4 := frozen_of 4 B6.b2))
      go_wp2_with fail
      refine bodyPost_ret (results_cell_row rfl _ _ (w.heap.size + 1) 41 _ (0, 0) _ rfl (stored5 _ _ _ _ _ B6.b2 rfl) Yba.underlying41 rfl (by kernel_rfl)) rfl ⟨bel5 _ _ _ _ _ B6.bel (by omega), ?_⟩
      exact .inl ⟨hf, rfl⟩
    · have hlen : (filt x n).length ≠ 0 := by
        intro h
        exact hf (List.length_eq_zero_iff.1 h)
      go_region_held3 (fun V => V.cell? ⟨w.heap.size, 0, none⟩ = some (.int .i64 a) ∧ V.cell? ⟨w.heap.size, 1, none⟩ = some (.int .u64 b) ∧ V.cell? ⟨w.heap.size, 2, none⟩ = some (.int .i64 c) ∧ V.cell? ⟨w.heap.size, 3, none⟩ = some (.int .u64 d) ∧ V.cell? ⟨w.heap.size, 4, none⟩ = some (.pointer (some ⟨NP, 0, none⟩))) (go_keep)
        (first
          | (go_at_call 23; refine Calls.mono (HL.out _ ?_) ?_; · exact B2.bel.drew
             rintro e w3 ⟨rfl, hb3⟩; have B3 := Boxes.later B2.drew (hb3.mono B2.drew.siz); have p0 := cell_of (i := 0) B3.b1 rfl; have p1 := cell_of (i := 1) B3.b1 rfl; have p2 := cell_of (i := 2) B3.b1 rfl; have p3 := cell_of (i := 3) B3.b1 rfl; have p4 := cell_of (i := 4) B3.b1 rfl)
          | (go_at_call 13; refine Calls.mono (HK.out _ ?_) ?_; · exact B3.bel
             rintro e w4 ⟨g, cap, F, rfl, hg, hnc, hcm, hrow, hF, hb4⟩; have B4 := Boxes.later B3 (hb4.mono B3.siz); have q0 := cell_of (i := 0) B4.b1 rfl; have q1 := cell_of (i := 1) B4.b1 rfl; have q2 := cell_of (i := 2) B4.b1 rfl; have q3 := cell_of (i := 3) B4.b1 rfl; have q4 := cell_of (i := 4) B4.b1 rfl)
          | (go_at_call 25; refine Calls.mono (delete_any g (cap * 3) n cap x _ F HX.out.2.2 ?_ hnc hcm hrow hF HX.out.1 HX.out.2.1) ?_; · omega
             rintro e w5 ⟨rfl, hlt5, ⟨F5, hrow5, hF5⟩, hfar5, hb5⟩; have B5 := Boxes.later B4 (hb5.mono (Nat.le_trans B3.siz hg)); have r0 := cell_of (i := 0) B5.b1 rfl; have r1 := cell_of (i := 1) B5.b1 rfl; have r2 := cell_of (i := 2) B5.b1 rfl; have r3 := cell_of (i := 3) B5.b1 rfl; have r4 := cell_of (i := 4) B5.b1 rfl)
          | (go_at_call 24; refine Calls.mono (byName_one _ _ _ ?_ _) ?_; · exact hlen
             rintro e w6 ⟨rfl, hN2, hb6⟩; have B6 := Boxes.later B5 (hb6.mono B5.siz); have t0 := cell_of (i := 0) B6.b1 rfl; have t1 := cell_of (i := 1) B6.b1 rfl; have t2 := cell_of (i := 2) B6.b1 rfl; have t3 := cell_of (i := 3) B6.b1 rfl; have t4 := cell_of (i := 4) B6.b1 rfl; have y0 := cell_of (i := 0) B6.b2 rfl; have y1 := cell_of (i := 1) B6.b2 rfl; have y2 := cell_of (i := 2) B6.b2 rfl; have y3 := cell_of (i := 3) B6.b2 rfl; have y4 := cell_of (i := 4) B6.b2 rfl; have f0 := frozen_of 0 B6.b2; have f1 := frozen_of 1 B6.b2; have f2 := frozen_of 2 B6.b2; have f3 := frozen_of 3 B6.b2; have f4 := frozen_of 4 B6.b2))
      go_wp2_with fail
      refine bodyPost_ret (results_cell_row rfl _ _ (w.heap.size + 1) 41 _ (0, 0) _ rfl (stored5 _ _ _ _ _ B6.b2 rfl) Yba.underlying41 rfl (by kernel_rfl)) rfl ⟨bel5 _ _ _ _ _ B6.bel (by omega), ?_⟩
      have g1 : w.heap.size + 2 ≤ g := Nat.le_trans B3.siz hg
      have g2 := hrow5.lt
      have g3 : w5.heap.size ≥ w.heap.size + 2 := B5.siz
      refine .inr ⟨hf, w5.heap.size, g, cap, cap * 3, F5, rfl, by omega, by omega, by omega, ?_, ?_, by omega, hF5⟩
      · repeat rw [Below.heap_setCell _ _ _ _ (by show w5.heap.size ≠ w.heap.size + 1; omega)]
        exact hN2
      · refine (hrow5.of_block (hb6.block g g2)).of_block ?_
        repeat rw [Below.heap_setCell _ _ _ _ (by show g ≠ w.heap.size + 1; omega)]
end Go.Proofs.Ybulkexnoq
