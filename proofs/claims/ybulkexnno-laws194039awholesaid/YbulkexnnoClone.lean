import Derived.Test.YbulkexnnoEq
import Derived.Laws.OwnMore
namespace Go.Proofs.Ybulkexnno
open Go.RowKit

theorem Yba.info25 : (Yba.prog.info? 25).map (fun i => (i.zero, i.size, i.bytes)) = some (some (.pointer none), 1, 8) := by kernel_rfl
theorem Yba.info3 : (Yba.prog.info? 3).map (fun i => (i.zero, i.size, i.bytes)) = some (some (.int .i64 0), 1, 8) := by kernel_rfl

theorem own_out {w w' : World} {e : TypeId} {n : Nat} {f : Nat → Value} {v' : Value} (h : w'.ownsRow w.heap.size e 1 v' n ((List.range n).map f)) (hv : v' ≠ .slice none 0 0) :
    ∃ g cap, v' = .slice (some ⟨g, 0, none⟩) n cap ∧ (w.heap.size ≤ g ∧ g < w'.heap.size) ∧ ∀ i, i < n → w'.cell? ⟨g, i, none⟩ = some (f i) := by
  obtain ⟨hl, h⟩ := id h
  rcases h with ⟨h, _⟩ | ⟨g, cap, cur, rfl, hb, hh, hn, hm, hs, ht⟩
  · exact absurd h hv
  · refine ⟨g, cap, rfl, ⟨hb, ?_⟩, fun i hi => ?_⟩
    · rcases Nat.lt_or_ge g w'.heap.size with h | h
      · exact h
      · rw [Array.getElem?_eq_none h] at hh; cases hh
    · have e1 : (cur.toList.take (n * 1))[i]? = some (f i) := by
        rw [ht]; simp [hi]
      have e2 : cur[i]? = some (f i) := by
        rw [List.getElem?_take, if_pos (by omega)] at e1; simpa using e1
      exact cell_of_block hh e2

set_option maxHeartbeats 400000 in
theorem clone_ptrs (b o n c : Nat) (f : Nat → Nat) (w : World) (hn : n ≤ 4096) (h1 : ∀ i, i < n → w.cell? ⟨b, o + i, none⟩ = some (.pointer (some ⟨f i, 0, none⟩))) (hb : b < w.heap.size) :
    Calls Yba.prog 4 #[.slice (some ⟨b, o, none⟩) n c] w fun e w' => ∃ g cap, e = .returned (.slice (some ⟨g, 0, none⟩) n cap) ∧ (w.heap.size ≤ g ∧ g < w'.heap.size) ∧
      (∀ i, i < n → w'.cell? ⟨g, i, none⟩ = some (.pointer (some ⟨f i, 0, none⟩))) ∧ Below w.heap.size w w' := by
  obtain ⟨i0, hi, hz0, hz1, hz2⟩ := info_parts Yba.info25
  have hs : ∀ W : World, (binOp .eql 31 (.slice (some ⟨b, o, none⟩) n c) (.slice none 0 0)).run Yba.prog W = .ok (.bool false) W := fun _ => by kernel_rfl
  go_enter Yba.func4, Yba.ntmps4
  go_wp2_with (at_builtin; refine wpList_append_own _ rfl _ _ 31 rfl w.heap.size 25 i0 (.pointer none) 1 8 Yba.underlying31 hi hz0 hz1 hz2 rfl (by decide) _ 0 [] rfl ?qown ⟨b, o, none⟩ n c ((List.range n).map fun i => .pointer (some ⟨f i, 0, none⟩)) rfl ?c0 ?c1 ?c2 ?c3 ?c4 ?c5 ?_)
  case qown => exact World.ownsRow_lit w #[] 0 (Nat.le_refl _) (by decide) rfl
  case c0 => simp
  case c1 =>
    intro j u hj
    have hjn : j < n := by
      rcases Nat.lt_or_ge j n with h | h
      · exact h
      · simp [h] at hj
    simp [hjn] at hj
    subst hj
    have e : (⟨b, o, none⟩ : Addr).add j = ⟨b, o + j, none⟩ := by simp [Addr.add]
    rw [e, World.cell?_alloc_lt _ _ _ hb]
    exact h1 j hjn
  case c2 => intro u hu; simp at hu; obtain ⟨i, _, rfl⟩ := hu; rfl
  case c3 => simp only [maxLen]; omega
  case c4 => omega
  case c5 => simp
  intro v' w1 hown hgrow hnn
  obtain ⟨g, cap, rfl, hg, hc⟩ := own_out hown hnn
  have hbel : Below w.heap.size w w1 := ((Below.refl _ _).alloc (Nat.le_refl _) _).grown hgrow (by simp) (fun k hk => by simp [Value.ownBlock] at hk; omega)
  clear hown hgrow hnn hs h1
  go_wp2
  go_ret
  exact ⟨g, cap, rfl, hg, hc, hbel⟩
set_option maxHeartbeats 400000 in
theorem clone_ints (b o n c : Nat) (f : Nat → Int) (w : World) (hn : n ≤ 4096) (h1 : ∀ i, i < n → w.cell? ⟨b, o + i, none⟩ = some (.int .i64 (f i))) (hb : b < w.heap.size) :
    Calls Yba.prog 5 #[.slice (some ⟨b, o, none⟩) n c] w fun e w' => ∃ g cap, e = .returned (.slice (some ⟨g, 0, none⟩) n cap) ∧ (w.heap.size ≤ g ∧ g < w'.heap.size) ∧
      (∀ i, i < n → w'.cell? ⟨g, i, none⟩ = some (.int .i64 (f i))) ∧ Below w.heap.size w w' := by
  obtain ⟨i0, hi, hz0, hz1, hz2⟩ := info_parts Yba.info3
  have hs : ∀ W : World, (binOp .eql 37 (.slice (some ⟨b, o, none⟩) n c) (.slice none 0 0)).run Yba.prog W = .ok (.bool false) W := fun _ => by kernel_rfl
  go_enter Yba.func5, Yba.ntmps5
  go_wp2_with (at_builtin; refine wpList_append_own _ rfl _ _ 37 rfl w.heap.size 3 i0 (.int .i64 0) 1 8 Yba.underlying37 hi hz0 hz1 hz2 rfl (by decide) _ 0 [] rfl ?qown ⟨b, o, none⟩ n c ((List.range n).map fun i => .int .i64 (f i)) rfl ?c0 ?c1 ?c2 ?c3 ?c4 ?c5 ?_)
  case qown => exact World.ownsRow_lit w #[] 0 (Nat.le_refl _) (by decide) rfl
  case c0 => simp
  case c1 =>
    intro j u hj
    have hjn : j < n := by
      rcases Nat.lt_or_ge j n with h | h
      · exact h
      · simp [h] at hj
    simp [hjn] at hj
    subst hj
    have e : (⟨b, o, none⟩ : Addr).add j = ⟨b, o + j, none⟩ := by simp [Addr.add]
    rw [e, World.cell?_alloc_lt _ _ _ hb]
    exact h1 j hjn
  case c2 => intro u hu; simp at hu; obtain ⟨i, _, rfl⟩ := hu; rfl
  case c3 => simp only [maxLen]; omega
  case c4 => omega
  case c5 => simp
  intro v' w1 hown hgrow hnn
  obtain ⟨g, cap, rfl, hg, hc⟩ := own_out hown hnn
  have hbel : Below w.heap.size w w1 := ((Below.refl _ _).alloc (Nat.le_refl _) _).grown hgrow (by simp) (fun k hk => by simp [Value.ownBlock] at hk; omega)
  clear hown hgrow hnn hs h1
  go_wp2
  go_ret
  exact ⟨g, cap, rfl, hg, hc, hbel⟩

theorem clone_nil (w : World) : Calls Yba.prog 5 #[.slice none 0 0] w fun e w' => e = .returned (.slice none 0 0) ∧ w' = w := by
  have hs : ∀ W : World, (binOp .eql 37 (.slice none 0 0) (.slice none 0 0)).run Yba.prog W = .ok (.bool true) W := fun _ => by kernel_rfl
  go_enter Yba.func5, Yba.ntmps5
  go_wp2
  go_ret
  exact ⟨rfl, rfl⟩
end Go.Proofs.Ybulkexnno
