import Derived.Test.YbulkexnnoT5
namespace Go.Proofs.Ybulkexnno
open Go.RowKit
set_option linter.unusedVariables false
variable {κ : Nat → Int} {π : Nat → Bool} {u AT C A N : Nat} {Ab Pb Rb Sb Sc : Nat → Nat} {ix : Nat → Nat → Nat}

structure Q4 (W : World) (C A : Nat) (Pb : Nat → Nat) (ix : Nat → Nat → Nat) (k : Nat) (Rb Sb Sc : Nat → Nat) (wr : World) : Prop where
  bel : Below W.heap.size W wr
  siz : W.heap.size + 2 ≤ wr.heap.size
  rt : wr.rowIs W.heap.size 31 C (fun c => if c < k then .slice (some ⟨Rb c, 0, none⟩) A A else .slice none 0 0)
  rc : wr.rowIs (W.heap.size + 1) 31 C (fun c => if c < k then .slice (some ⟨Sb c, 0, none⟩) A (Sc c) else .slice none 0 0)
  r1 : ∀ c i, c < k → i < A → wr.cell? ⟨Rb c, i, none⟩ = some (.pointer (some ⟨Pb (ix c i), 0, none⟩))
  s1 : ∀ c i, c < k → i < A → wr.cell? ⟨Sb c, i, none⟩ = some (.pointer (some ⟨Pb (ix c i), 0, none⟩))
  rn : ∀ c, c < k → W.heap.size + 2 ≤ Rb c
  sn : ∀ c, c < k → W.heap.size + 2 ≤ Sb c

theorem cell_setCell_block {w : World} {b i b' i' : Nat} {v x : Value} (h : w.cell? ⟨b, i, none⟩ = some v) (hne : b ≠ b') : (w.setCell ⟨b', i', none⟩ x).cell? ⟨b, i, none⟩ = some v := by
  rw [World.cell?_of_block (w := w) (Below.heap_setCell w _ _ _ hne)]; exact h

theorem Q4.step {W wr wx w5 : World} {k g cap : Nat} (h : Q4 W C A Pb ix k Rb Sb Sc wr) (hx : Below wr.heap.size wr wx)
    (hxs : wx.rowIs wr.heap.size 25 A (fun j => .pointer (some ⟨Pb (ix k j), 0, none⟩)))
    (h5 : Below (wx.setCell ⟨W.heap.size, k, none⟩ (.slice (some ⟨wr.heap.size, 0, none⟩) A A)).heap.size (wx.setCell ⟨W.heap.size, k, none⟩ (.slice (some ⟨wr.heap.size, 0, none⟩) A A)) w5)
    (hg : (wx.setCell ⟨W.heap.size, k, none⟩ (.slice (some ⟨wr.heap.size, 0, none⟩) A A)).heap.size ≤ g)
    (hgc : ∀ i, i < A → w5.cell? ⟨g, i, none⟩ = some (.pointer (some ⟨Pb (ix k i), 0, none⟩))) :
    Q4 W C A Pb ix (k + 1) (fun c => if c = k then wr.heap.size else Rb c) (fun c => if c = k then g else Sb c) (fun c => if c = k then cap else Sc c) (w5.setCell ⟨W.heap.size + 1, k, none⟩ (.slice (some ⟨g, 0, none⟩) A cap)) := by
  have hs := h.siz
  have hsx := hx.size
  have hs5 := h5.size
  have eB : (wx.setCell ⟨W.heap.size, k, none⟩ (.slice (some ⟨wr.heap.size, 0, none⟩) A A)).heap.size = wx.heap.size := by simp
  rw [eB] at hs5 hg
  have bel5 : Below W.heap.size W w5 := ((h.bel.trans (hx.mono (by omega))).setCell (p := ⟨W.heap.size, k, none⟩) (Nat.le_refl _) _).trans (h5.mono (by rw [eB]; omega))
  have sel : ∀ c : Nat, c < k + 1 → c ≠ k → c < k := fun c h1 h2 => by omega
  have up : ∀ b i v, wx.cell? ⟨b, i, none⟩ = some v → b ≠ W.heap.size → b ≠ W.heap.size + 1 → (w5.setCell ⟨W.heap.size + 1, k, none⟩ (.slice (some ⟨g, 0, none⟩) A cap)).cell? ⟨b, i, none⟩ = some v := fun b i v hv n1 n2 =>
    cell_setCell_block (cell_later h5 (cell_setCell_block hv n1)) n2
  refine ⟨bel5.setCell (p := ⟨W.heap.size + 1, k, none⟩) (by show W.heap.size ≤ W.heap.size + 1; omega) _, by simp; omega, ?_, ?_, ?_, ?_, ?_, ?_⟩
  · refine (((rowIs_later ((rowIs_later h.rt hx).set k _) h5)).setOther (a := ⟨W.heap.size + 1, k, none⟩) (by show W.heap.size ≠ W.heap.size + 1; omega) _).congr (fun c _ => ?_)
    by_cases e : c = k
    · subst e; simp
    · by_cases l : c < k
      · simp [e, l, Nat.lt_succ_of_lt l]
      · have : ¬ c < k + 1 := by omega
        simp [e, l, this]
  · refine ((rowIs_later ((rowIs_later h.rc hx).setOther (a := ⟨W.heap.size, k, none⟩) (by show W.heap.size + 1 ≠ W.heap.size; omega) _) h5).set k _).congr (fun c _ => ?_)
    by_cases e : c = k
    · subst e; simp
    · by_cases l : c < k
      · simp [e, l, Nat.lt_succ_of_lt l]
      · have : ¬ c < k + 1 := by omega
        simp [e, l, this]
  · intro c i hc hi
    by_cases e : c = k
    · subst e
      simp only [if_true]
      exact up _ _ _ (hxs.cell hi) (by omega) (by omega)
    · simp only [e, if_false]
      have := h.rn c (sel c hc e)
      exact up _ _ _ (cell_later hx (h.r1 c i (sel c hc e) hi)) (by omega) (by omega)
  · intro c i hc hi
    by_cases e : c = k
    · subst e
      simp only [if_true]
      exact cell_setCell_block (hgc i hi) (by omega)
    · simp only [e, if_false]
      have := h.sn c (sel c hc e)
      exact up _ _ _ (cell_later hx (h.s1 c i (sel c hc e) hi)) (by omega) (by omega)
  · intro c hc
    by_cases e : c = k
    · subst e; simp only [if_true]; omega
    · simp only [e, if_false]; exact h.rn c (sel c hc e)
  · intro c hc
    by_cases e : c = k
    · subst e; simp only [if_true]; omega
    · simp only [e, if_false]; exact h.sn c (sel c hc e)

theorem Q4.start (W : World) : Q4 W C A Pb ix 0 Rb Sb Sc ((W.alloc (.cells (madeCells #[.slice none 0 0] C) 31)).alloc (.cells (madeCells #[.slice none 0 0] C) 31)) := by
  have e : (W.alloc (.cells (madeCells #[.slice none 0 0] C) 31)).heap.size = W.heap.size + 1 := by simp
  refine ⟨((Below.refl _ _).alloc (Nat.le_refl _) _).alloc (by simp) _, by simp, ?_, ?_, fun c i hc => by omega, fun c i hc => by omega, fun c hc => by omega, fun c hc => by omega⟩
  · exact ((World.rowIs_made W (.slice none 0 0) C 31).alloc _).congr (fun i _ => by simp)
  · have := World.rowIs_made (W.alloc (.cells (madeCells #[.slice none 0 0] C) 31)) (.slice none 0 0) C 31
    rw [e] at this
    exact this.congr (fun i _ => by simp)
end Go.Proofs.Ybulkexnno
