import Derived.Test.YbulkexnocBCalls
import Derived.Deep.AppendLies
import Derived.OneCell
namespace Go.Proofs.Ybulkexnoc
open Go.RowKit

theorem Yba.info30 : (Yba.prog.info? 30).map (fun i => (i.zero, i.size, i.bytes)) = some (some (.pointer none), 1, 8) := by kernel_rfl

def ptr (E : Nat) : Value := .pointer (some ⟨E, 0, none⟩)

theorem one_set {w : World} {b t : Nat} {v x : Value} (h : w.heap[b]? = some (.cells #[v] t (0, 0))) : (w.setCell ⟨b, 0, none⟩ x).heap[b]? = some (.cells #[x] t (0, 0)) := one_setCell h

set_option maxHeartbeats 400000 in
theorem release_any (w : World) (BB base k E : Nat) (sv : Value) (xs : List Value) (hB : w.heap[BB]? = some (.cells #[sv] 29 (0, 0))) (hlt : BB < base) (hbase : base ≤ w.heap.size)
    (hown : w.ownsRow base 30 1 sv k xs) (hk : k ≤ 4096) :
    Calls Yba.prog 6 #[.pointer (some ⟨BB, 0, none⟩), ptr E] w fun e w' => e = .returned (.tuple #[]) ∧ ∃ g cap, w'.heap[BB]? = some (.cells #[.slice (some ⟨g, 0, none⟩) (k + 1) cap] 29 (0, 0)) ∧
      w'.ownsRow base 30 1 (.slice (some ⟨g, 0, none⟩) (k + 1) cap) (k + 1) (xs ++ [ptr E]) ∧ (∀ b, b < w.heap.size → b ≠ BB → sv.ownBlock ≠ some b → w'.heap[b]? = w.heap[b]?) ∧ Below BB w w' := by
  obtain ⟨i0, hi, hz0, hz1, hz2⟩ := info_parts Yba.info30
  have c0 := cell_of_one hB
  have f0 := free_of_one hB
  unfold ptr
  go_enter Yba.func6, Yba.ntmps6
  go_wp2_with (at_builtin; refine wpList_append_lies _ rfl _ _ 27 rfl base 30 i0 (.pointer none) 1 8 Yba.underlying27 hi hz0 hz1 hz2 rfl (by decide) sv k xs rfl ?qown ⟨w.heap.size, 0, none⟩ 1 1 [.pointer (some ⟨E, 0, none⟩)] rfl rfl ?qc1 ?qc2 ?qc0 ?qc3 ?qc4 ?qc5 (w.heap.size + 1) ?qc6 ?_)
  case qown => exact hown.alloc _
  case qc1 =>
    intro j u hj
    match j, hj with
    | 0, hj => simp at hj; subst hj; simp [Addr.add]
  case qc2 => intro u hu; simp at hu; subst hu; rfl
  case qc0 => omega
  case qc3 => simp only [maxLen]; omega
  case qc4 => omega
  case qc5 => simp; omega
  case qc6 => simp
  intro g cap w1 hown1 hgrow hat hg
  have hBlt : BB < w.heap.size := by omega
  have hB1 : w1.heap[BB]? = some (.cells #[sv] 29 (0, 0)) := by
    rw [hgrow.block BB (by simp; omega) (fun e => by have := (hown.lt BB e.symm).1; omega), Below.heap_alloc _ _ _ hBlt]; exact hB
  have c1 := cell_of_one hB1
  have f1 := free_of_one hB1
  have hoth : ∀ b, b < w.heap.size → sv.ownBlock ≠ some b → w1.heap[b]? = w.heap[b]? := fun b hb hne => by
    rw [hgrow.block b (by simp; omega) (fun e => hne e.symm), Below.heap_alloc _ _ _ hb]
  have hbel : Below BB w w1 := ((Below.refl _ _).alloc (by omega) _).grown hgrow (by simp; omega) (fun k hk => by have := (hown.lt k hk).1; omega)
  have HO := show Hid _ from hoth
  clear hgrow hat hoth c0 f0 hB hown
  go_wp2
  go_end0
  refine ⟨rfl, g, cap, one_set hB1, ownsRow_setCell_below hown1 hlt _, fun b hb hne hsv => ?_, hbel.setCell (Nat.le_refl _) _⟩
  rw [Below.heap_setCell _ _ _ _ hne]
  exact HO.out b hb hsv

theorem spare_none (w : World) (BB : Nat) (p : Option Addr) (cap : Nat) (hB : w.heap[BB]? = some (.cells #[.slice p 0 cap] 29 (0, 0))) :
    Calls Yba.prog 7 #[.pointer (some ⟨BB, 0, none⟩)] w fun e w' => e = .returned (ptr w.heap.size) ∧ w' = w.alloc (.cells (fresh w.heap.size (.map none) (.pointer none)) 45) := by
  have c0 := cell_of_one hB
  unfold ptr
  go_enter Yba.func7, Yba.ntmps7
  go_wp2_with fail
  refine (newBindings_any w).mono ?_
  rintro e w' ⟨rfl, rfl⟩
  dsimp only
  go_wp2
  go_ret
  exact ⟨rfl, rfl⟩

set_option maxHeartbeats 400000 in
theorem spare_some (w : World) (BB g k cap E : Nat) (F : Nat → Value) (hB : w.heap[BB]? = some (.cells #[.slice (some ⟨g, 0, none⟩) (k + 1) cap] 29 (0, 0))) (hc : k + 1 ≤ cap) (hcm : cap ≤ maxLen)
    (hk : w.cell? ⟨g, k, none⟩ = some (ptr E)) (hE : w.rowIs E 45 8 F) :
    Calls Yba.prog 7 #[.pointer (some ⟨BB, 0, none⟩)] w fun e w' => e = .returned (ptr E) ∧ w'.heap[BB]? = some (.cells #[.slice (some ⟨g, 0, none⟩) k cap] 29 (0, 0)) ∧
      w'.rowIs E 45 8 (fun i => (fresh E (.map none) (.pointer none)).getD i undef) ∧ (∀ b, b ≠ BB → b ≠ E → w'.heap[b]? = w.heap[b]?) ∧ (∀ B, B ≤ BB → B ≤ E → Below B w w') := by
  have c0 := cell_of_one hB
  have f0 := free_of_one hB
  have hne : E ≠ BB := by
    rintro rfl
    obtain ⟨c, h1, _⟩ := hE
    rw [hB] at h1; cases h1
  have hE1 : ∀ v, (w.setCell ⟨BB, 0, none⟩ v).rowIs E 45 8 F := fun v => hE.setOther hne v
  have hB1 := one_set (x := .slice (some ⟨g, 0, none⟩) k cap) hB
  unfold maxLen at hcm
  unfold ptr at hk ⊢
  have hi1 : (0 : Int) ≤ (k : Int) := by omega
  go_enter Yba.func7, Yba.ntmps7
  go_wp2_with fail
  refine (reset_any _ E F (hE1 _)).mono ?_
  rintro e w1 ⟨rfl, h1, h2, h3⟩
  have H2 := show Hid _ from h2
  clear h2
  dsimp only
  go_wp2
  go_ret
  refine ⟨rfl, ?_, h1, fun b hb hbe => ?_, fun B hBB hBE => ?_⟩
  · rw [H2.out BB (fun e => hne e.symm)]; exact hB1
  · rw [H2.out b hbe, Below.heap_setCell _ _ _ _ hb]
  · exact ((Below.refl B w).setCell (p := ⟨BB, 0, none⟩) hBB _).trans (h3.mono hBE)
end Go.Proofs.Ybulkexnoc
