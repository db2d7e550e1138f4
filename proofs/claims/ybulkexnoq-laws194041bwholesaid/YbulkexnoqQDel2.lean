import Derived.Test.YbulkexnoqQDel
namespace Go.Proofs.Ybulkexnoq
open Go.RowKit
set_option linter.unusedVariables false
set_option linter.unusedSimpArgs false

/-- DeleteFunc's loop: j elements have been looked at. -/
structure Del (w : World) (g m n : Nat) (x : Nat → Ent) (i j : Nat) (wr : World) : Prop where
  le : i < j
  cnt : i = (filt x j).length
  row : ∃ F, wr.rowIs g 36 m F ∧ (∀ q, q < i * 3 → F q = cell3 (nth (filt x j)) q) ∧ ∀ q, j * 3 ≤ q → q < n * 3 → F q = cell3 x q
  far : ∀ b, b < w.heap.size → b ≠ g → wr.heap[b]? = w.heap[b]?
  bel : Below g w wr

theorem at_row {w : World} {g m n : Nat} {F : Nat → Value} {x : Nat → Ent} (h : w.rowIs g 36 m F) (hm : n * 3 ≤ m) (hx : ∀ q, q < n * 3 → F q = cell3 x q) : At3 w g 0 n x := fun i hi => by
  have e0 := h.cell (show i * 3 < m by omega)
  have e1 := h.cell (show i * 3 + 1 < m by omega)
  have e2 := h.cell (show i * 3 + 2 < m by omega)
  rw [hx _ (by omega), cell3_0] at e0
  rw [hx _ (by omega), cell3_1] at e1
  rw [hx _ (by omega), cell3_2] at e2
  simp only [Nat.zero_add]
  exact ⟨e0, e1, e2⟩

theorem rowIs_of' {w : World} {D t m : Nat} {F : Nat → Value} (h : w.rowIs D t m F) : w.rowIs D t m F := h

set_option maxRecDepth 100000 in
set_option maxHeartbeats 1000000 in
theorem delete_any (g m n cap : Nat) (x : Nat → Ent) (w : World) (F : Nat → Value) (hn : n ≤ 1048576) (hm : n * 3 ≤ m) (hcap : n ≤ cap) (hcm : cap ≤ maxLen) (hr : w.rowIs g 36 m F) (hx : ∀ q, q < n * 3 → F q = cell3 x q) (hl : ∀ i, 0 ≤ (x i).2.2)
    (hsome : ∃ k, k < n ∧ pos (x k) = false) :
    Calls Yba.prog 25 #[.slice (some ⟨g, 0, none⟩) n cap, fn20] w fun e w' => e = .returned (.slice (some ⟨g, 0, none⟩) (filt x n).length cap) ∧ (filt x n).length < n ∧
      (∃ F', w'.rowIs g 36 m F' ∧ ∀ q, q < (filt x n).length * 3 → F' q = cell3 (nth (filt x n)) q) ∧ (∀ b, b < w.heap.size → b ≠ g → w'.heap[b]? = w.heap[b]?) ∧ Below g w w' := by
  have hix := index_any (some ⟨g, 0, none⟩) n cap x w hn (.inr ⟨g, 0, rfl, at_row hr hm hx⟩) hl
  have hpr := fun k V => pred_any (x k) (hl k) V
  have HP := show Hid _ from hpr
  have HI := show Hid _ from hix
  have HR := show Hid _ from And.intro hr hx
  have HN := show Hid _ from And.intro hn (And.intro hm (And.intro hcap hcm))
  have hglt := hr.lt
  obtain ⟨kx, hkx1, hkx2⟩ := hsome
  clear hpr hix hr hx hn hm hcap hcm hl
  unfold fn20
  go_enter Yba.func25, Yba.ntmps25
  go_wp2_with fail
  refine Calls.mono HI.out ?_
  rintro e w1 ⟨hb1, k, hk, hall, ⟨hlt, hp, rfl⟩ | ⟨rfl, rfl⟩⟩
  · have e1 : ((k : Int) == -1) = false := by simp
    have hw1 : ∀ b, b < w.heap.size → w1.heap[b]? = w.heap[b]? := hb1.block
    have HA := show Hid _ from hall
    have hn0 := HN.out.1
    clear hall HI
    dsimp only
    go_wp2_with fail
    go_loopg [5, 6] n (fun gh s5 s6 wr => ∃ i j : Nat, j ≤ n ∧ n - j ≤ gh ∧ s5 = .int .i64 i ∧ s6 = .int .i64 j ∧ Del w g m n x i j wr)
    case atStart =>
      have hf : filt x (k + 1) = (List.range k).map x := by rw [filt_neg hp, filt_all HA.out]
      have hn := HN.out.1
      refine ⟨k, k + 1, by omega, by omega, rfl, by go_num, by omega, by rw [hf]; simp, ⟨F, HR.out.1.of_block (hw1 g hglt), fun q hq => ?_, fun q h1 h2 => HR.out.2 q h2⟩, fun b hb _ => hw1 b hb, hb1.mono (by omega)⟩
      rw [HR.out.2 q (by omega)]
      refine cell3_congr ?_
      rw [hf, nth_map (by omega)]
    case round =>
      obtain ⟨i, j, hj, hg, rfl, rfl, D⟩ := hrel
      have hn := HN.out.1
      have hm := HN.out.2.1
      have hij := D.le
      by_cases hlt2 : j < n
      · obtain ⟨G, hrow, hG1, hG2⟩ := D.row
        have glt := hrow.lt
        have c0 := hrow.cell (show j * 3 < m by omega)
        have c1 := hrow.cell (show j * 3 + 1 < m by omega)
        have c2 := hrow.cell (show j * 3 + 2 < m by omega)
        rw [hG2 _ (by omega) (by omega), cell3_0] at c0
        rw [hG2 _ (by omega) (by omega), cell3_1] at c1
        rw [hG2 _ (by omega) (by omega), cell3_2] at c2
        have HROW := show Hid _ from And.intro hrow (And.intro hG1 hG2)
        have HD := show Hid _ from D
        have e2 : decide ((j : Int) < (n : Int)) = true := decide_eq_true (by omega)
        clear hrow hG1 hG2 D
        go_wp2_with fail
        refine Calls.mono (HP.out j _) ?_
        rintro e w2 ⟨rfl, hb2⟩
        have hb3 : Below wr.heap.size wr w2 := ((Below.refl wr.heap.size wr).alloc (Nat.le_refl _) _).trans (hb2.mono (by simp))
        have hsz2 : wr.heap.size + 1 ≤ w2.heap.size := by have := hb2.size; simpa using this
        have hbox := fun q => hb2.cell (p := ⟨wr.heap.size, q, none⟩) (by simp)
        have x0 : w2.cell? ⟨wr.heap.size, 0, none⟩ = some (.string (x j).1) := by rw [hbox 0]; simp
        have x1 : w2.cell? ⟨wr.heap.size, 1, none⟩ = some (.int .i64 (x j).2.1) := by rw [hbox 1]; simp
        have x2 : w2.cell? ⟨wr.heap.size, 2, none⟩ = some (.int .u64 (x j).2.2) := by rw [hbox 2]; simp
        have hrow2 := (rowIs_of' HROW.out.1).of_block (hb3.block g glt)
        have hG1 := HROW.out.2.1
        have hG2 := HROW.out.2.2
        have D := HD.out
        have hfar2 : ∀ b, b < w.heap.size → b ≠ g → w2.heap[b]? = w.heap[b]? := fun b h1 h2 => (hb3.block b (Nat.lt_of_lt_of_le h1 D.bel.size)).trans (D.far b h1 h2)
        have hbel2 : Below g w w2 := D.bel.trans (hb3.mono (by omega))
        clear hb2 hbox HROW HD c0 c1 c2
        dsimp only
        cases hpj : pos (x j)
        · have HX := show Hid _ from And.intro hrow2 (And.intro hG1 (And.intro hG2 (And.intro hfar2 (And.intro hbel2 D))))
          clear hrow2 hG1 hG2 hfar2 hbel2 D
          go_wp2_with fail
          go_roundg (n - (j + 1))
          case measure => omega
          case rel =>
            obtain ⟨hrow2, hG1, hG2, hfar2, hbel2, D⟩ := HX.out
            exact ⟨i, j + 1, by omega, by omega, rfl, by go_num, by omega, by rw [filt_neg hpj]; exact D.cnt, ⟨G, hrow2, by rw [filt_neg hpj]; exact hG1, fun q h1 h2 => hG2 q (by omega) h2⟩, hfar2, hbel2⟩
        · have s0 := hrow2.cell (show i * 3 < m by omega)
          have s1 := hrow2.cell (show i * 3 + 1 < m by omega)
          have s2 := hrow2.cell (show i * 3 + 2 < m by omega)
          have f0 := hrow2.frozen (i * 3)
          have f1 := hrow2.frozen (i * 3 + 1)
          have f2 := hrow2.frozen (i * 3 + 2)
          have hne : g ≠ wr.heap.size := by omega
          have HX := show Hid _ from And.intro hrow2 (And.intro hG1 (And.intro hG2 (And.intro hfar2 (And.intro hbel2 D))))
          clear hrow2 hG1 hG2 hfar2 hbel2 D
          go_wp2_with fail
          go_roundg (n - (j + 1))
          case measure => omega
          case rel =>
            obtain ⟨hrow2, hG1, hG2, hfar2, hbel2, D⟩ := HX.out
            have hcnt := D.cnt
            refine ⟨i + 1, j + 1, by omega, by omega, by go_num, by go_num, by omega, by rw [filt_pos hpj]; simp; exact hcnt, ⟨_, ((rowIs_of' hrow2).set (i * 3) _).set (i * 3 + 1) _ |>.set (i * 3 + 2) _, fun q hq => ?_, fun q h1 h2 => ?_⟩, fun b h1 h2 => ?_, ?_⟩
            · rw [filt_pos hpj]
              have hl : nth (filt x j ++ [x j]) i = x j := by rw [hcnt]; exact nth_last _ _
              rcases Nat.lt_or_ge q (i * 3) with hq3 | hq3
              · simp only [show ¬ q = i * 3 + 2 by omega, show ¬ q = i * 3 + 1 by omega, show ¬ q = i * 3 by omega, if_false]
                rw [hG1 q hq3]
                exact (cell3_congr (nth_left (by omega))).symm
              · have : q = i * 3 ∨ q = i * 3 + 1 ∨ q = i * 3 + 2 := by omega
                rcases this with rfl | rfl | rfl
                · rw [cell3_0, hl]; simp
                · rw [cell3_1, hl]; simp
                · rw [cell3_2, hl]; simp
            · simp only [show ¬ q = i * 3 + 2 by omega, show ¬ q = i * 3 + 1 by omega, show ¬ q = i * 3 by omega, if_false]
              exact hG2 q (by omega) h2
            · repeat rw [Below.heap_setCell _ _ _ _ h2]
              exact hfar2 b h1 h2
            · exact ((hbel2.setCell (p := ⟨g, i * 3, none⟩) (Nat.le_refl _) _).setCell (p := ⟨g, i * 3 + 1, none⟩) (Nat.le_refl _) _).setCell (p := ⟨g, i * 3 + 2, none⟩) (Nat.le_refl _) _
      · obtain rfl : n = j := by omega
        have e2 : decide ((n : Int) < (n : Int)) = false := decide_eq_false (by omega)
        have HD := show Hid _ from D
        have hcap := HN.out.2.2.1
        obtain ⟨G, hrow, hG1, hG2⟩ := D.row
        obtain ⟨w3, hcl, ⟨F3, hr3, hF3⟩, hfar3, hb3⟩ := clear3 wr g m i (n - i) (cap - i) 0 G hrow (by omega)
        have H3 := show Hid _ from And.intro hr3 (And.intro hF3 (And.intro hfar3 hb3))
        clear D hrow hG2 hr3 hF3 hfar3 hb3
        have HG := show Hid _ from hG1
        clear hG1
        go_wp2_with fail
        go_ret
        have D := HD.out
        have hcnt := D.cnt
        obtain ⟨hr3, hF3, hfar3, hb3⟩ := H3.out
        refine ⟨by rw [← hcnt]; rfl, by omega, ⟨F3, hr3, fun q hq => ?_⟩, fun b h1 h2 => (hfar3 b h2).trans (D.far b h1 h2), D.bel.trans hb3⟩
        rw [hF3 q (by omega), HG.out q (by omega)]
  · exact absurd (hall kx hkx1) (by rw [hkx2]; decide)
end Go.Proofs.Ybulkexnoq
