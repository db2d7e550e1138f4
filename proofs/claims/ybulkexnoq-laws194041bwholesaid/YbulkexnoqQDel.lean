import Derived.Test.YbulkexnoqQIdx
import Derived.Laws.OwnMore
import Derived.Laws.CopyRow
namespace Go.Proofs.Ybulkexnoq
open Go.RowKit
set_option linter.unusedVariables false
set_option linter.unusedSimpArgs false

theorem Yba.info36 : (Yba.prog.info? 36).map (fun i => (i.zero, i.size, i.bytes)) = some (some (.agg #[.string ⟨#[]⟩, .int .i64 0, .int .u64 0]), 3, 32) := by kernel_rfl

def filt (x : Nat → Ent) (k : Nat) : List Ent := ((List.range k).map x).filter pos
def nth (l : List Ent) (i : Nat) : Ent := l.getD i (ByteArray.empty, 0, 0)
theorem filt_pos {x : Nat → Ent} {k : Nat} (h : pos (x k) = true) : filt x (k + 1) = filt x k ++ [x k] := by simp [filt, List.range_succ, List.filter_append, h]
theorem filt_neg {x : Nat → Ent} {k : Nat} (h : pos (x k) = false) : filt x (k + 1) = filt x k := by simp [filt, List.range_succ, List.filter_append, h]
theorem filt_len (x : Nat → Ent) (k : Nat) : (filt x k).length ≤ k := by
  have := List.length_filter_le pos ((List.range k).map x)
  simpa [filt] using this
theorem filt_all {x : Nat → Ent} {k : Nat} (h : ∀ i, i < k → pos (x i) = true) : filt x k = (List.range k).map x := by
  unfold filt
  rw [List.filter_eq_self]
  intro a ha
  obtain ⟨i, hi, rfl⟩ := List.mem_map.1 ha
  exact h i (List.mem_range.1 hi)
theorem nth_left {l : List Ent} {e : Ent} {i : Nat} (h : i < l.length) : nth (l ++ [e]) i = nth l i := by simp [nth, h, List.getElem?_append_left]
theorem nth_last (l : List Ent) (e : Ent) : nth (l ++ [e]) l.length = e := by simp [nth]
theorem nth_map {x : Nat → Ent} {k i : Nat} (h : i < k) : nth ((List.range k).map x) i = x i := by simp [nth, h]
theorem cell3_congr {x y : Nat → Ent} {q : Nat} (h : x (q / 3) = y (q / 3)) : cell3 x q = cell3 y q := by unfold cell3; rw [h]

theorem clear3 (w : World) (g m i r c ty : Nat) (F : Nat → Value) (h : w.rowIs g 36 m F) (hr : (i + r) * 3 ≤ m) :
    ∃ w', (Builtin.clear_ #[32] ty #[.slice (some ⟨g, i * 3, none⟩) r c]).run Yba.prog w = .ok (.tuple #[]) w' ∧ (∃ F', w'.rowIs g 36 m F' ∧ ∀ q, q < i * 3 → F' q = F q) ∧ (∀ b, b ≠ g → w'.heap[b]? = w.heap[b]?) ∧ Below g w w' := by
  obtain ⟨i0, hi, hz0, hz1, hz2⟩ := info_parts Yba.info36
  rcases Nat.eq_zero_or_pos r with rfl | h0
  · refine ⟨w, ?_, ⟨F, h, fun q _ => rfl⟩, fun b _ => rfl, Below.refl _ _⟩
    simp [Builtin.clear_, run_underlying Yba.underlying32]
  · obtain ⟨cs, hg, hsz, hc⟩ := h
    have hv : ∀ V : World, (zeroValue 36).run Yba.prog V = .ok (.agg #[.string ⟨#[]⟩, .int .i64 0, .int .u64 0]) V := fun V => by
      simp [zeroValue, typeInfo, hi, hz0]
    have hzl : (Builtin.zeroCells #[.string ⟨#[]⟩, .int .i64 0, .int .u64 0] r).toList.length = r * 3 := by simp [Builtin.zeroCells]
    have hst := run_storeCells_at (P := Yba.prog) g (i * 3) 36 (Builtin.zeroCells #[.string ⟨#[]⟩, .int .i64 0, .int .u64 0] r).toList 0 cs w hg (by rw [hzl]; omega) (fun v hv => by
      simp [Builtin.zeroCells] at hv
      obtain ⟨j, _, rfl⟩ := hv
      have : j % 3 = 0 ∨ j % 3 = 1 ∨ j % 3 = 2 := by omega
      rcases this with e | e | e <;> rw [e] <;> rfl)
    obtain ⟨s, rfl⟩ : ∃ s, r = s + 1 := ⟨r - 1, by omega⟩
    generalize hL : cs.toList.take (i * 3 + 0) ++ (Builtin.zeroCells #[.string ⟨#[]⟩, .int .i64 0, .int .u64 0] (s + 1)).toList ++ cs.toList.drop (i * 3 + 0 + (Builtin.zeroCells #[.string ⟨#[]⟩, .int .i64 0, .int .u64 0] (s + 1)).toList.length) = L at hst
    have hLl : L.length = m := by
      rw [← hL]
      simp only [List.length_append, List.length_take, List.length_drop, hzl, Array.length_toList]
      omega
    refine ⟨w.setRow g L.toArray, by simp [Builtin.clear_, run_underlying Yba.underlying32, hv, Value.cells, hst], ⟨fun q => L.getD q undef, ⟨_, setRow_heap w g cs _ 36 _ hg, by simpa using hLl, ?_⟩, ?_⟩, ?_, ?_⟩
    · intro q hq
      rw [List.getElem?_toArray, List.getElem?_eq_getElem (by omega)]
      simp [List.getD_eq_getElem?_getD, List.getElem?_eq_getElem (show q < L.length by omega)]
    · intro q hq
      show L.getD q undef = F q
      rw [← hL, List.getD_eq_getElem?_getD, List.append_assoc, List.getElem?_append_left (by simp; omega), List.getElem?_take, if_pos (by omega)]
      have := hc q (by omega)
      simp at this ⊢
      rw [this]
      rfl
    · intro b hb
      exact setRow_other w g b _ hb
    · exact ⟨rfl, rfl, rfl, by simp, fun k hk => setRow_other w g k _ (by omega)⟩

theorem own_rows {w w' : World} {n base : Nat} {x : Nat → Ent} {v' : Value} (hn : 0 < n) (h : w'.ownsRow base 36 3 v' n ((List.range (n * 3)).map (cell3 x))) :
    ∃ g cap F, v' = .slice (some ⟨g, 0, none⟩) n cap ∧ base ≤ g ∧ n ≤ cap ∧ cap ≤ maxLen ∧ w'.rowIs g 36 (cap * 3) F ∧ ∀ q, q < n * 3 → F q = cell3 x q := by
  obtain ⟨hl, h⟩ := id h
  rcases h with ⟨h, h0⟩ | ⟨g, cap, cur, rfl, hb, hh, hnc, hm, hs, ht⟩
  · omega
  · refine ⟨g, cap, fun q => cur.getD q undef, rfl, hb, hnc, hm, ⟨cur, hh, hs, fun q hq => ?_⟩, fun q hq => ?_⟩
    · rw [Array.getElem?_eq_getElem (by omega)]
      simp [Array.getD, show q < cur.size by omega]
    · have e1 : (cur.toList.take (n * 3))[q]? = some (cell3 x q) := by
        rw [ht]; simp [hq]
      rw [List.getElem?_take, if_pos hq] at e1
      have e2 : cur[q]? = some (cell3 x q) := by simpa using e1
      show cur.getD q undef = _
      rw [Array.getD_eq_getD_getElem?, e2]
      rfl

set_option maxRecDepth 100000 in
set_option maxHeartbeats 400000 in
theorem clone_any (b o n c : Nat) (x : Nat → Ent) (w : World) (hn0 : 0 < n) (hn : n ≤ 1048576) (h1 : At3 w b o n x) (hb : b < w.heap.size) :
    Calls Yba.prog 13 #[.slice (some ⟨b, o, none⟩) n c] w fun e w' => ∃ g cap F, e = .returned (.slice (some ⟨g, 0, none⟩) n cap) ∧ w.heap.size ≤ g ∧ n ≤ cap ∧ cap ≤ maxLen ∧ w'.rowIs g 36 (cap * 3) F ∧ (∀ q, q < n * 3 → F q = cell3 x q) ∧ Below w.heap.size w w' := by
  obtain ⟨i0, hi, hz0, hz1, hz2⟩ := info_parts Yba.info36
  have hs : ∀ W : World, (binOp .eql 32 (.slice (some ⟨b, o, none⟩) n c) (.slice none 0 0)).run Yba.prog W = .ok (.bool false) W := fun _ => by kernel_rfl
  go_enter Yba.func13, Yba.ntmps13
  go_wp2_with (at_builtin; refine wpList_append_own _ rfl _ _ 32 rfl w.heap.size 36 i0 (.agg #[.string ⟨#[]⟩, .int .i64 0, .int .u64 0]) 3 32 Yba.underlying32 hi hz0 hz1 hz2 rfl (by decide) _ 0 [] rfl ?qown ⟨b, o, none⟩ n c ((List.range (n * 3)).map (cell3 x)) rfl ?c0 ?c1 ?c2 ?c3 ?c4 ?c5 ?_)
  case qown => exact World.ownsRow_lit w #[] 0 (Nat.le_refl _) (by decide) rfl
  case c0 => simp
  case c1 =>
    intro j u hj
    have hjn : j < n * 3 := by
      rcases Nat.lt_or_ge j (n * 3) with h | h
      · exact h
      · simp [h] at hj
    simp [hjn] at hj
    subst hj
    have e : (⟨b, o, none⟩ : Addr).add j = ⟨b, o + j, none⟩ := by unfold Addr.add; split <;> simp_all
    rw [e, World.cell?_alloc_lt _ _ _ hb]
    obtain ⟨a0, a1, a2⟩ := h1 (j / 3) (by omega)
    have h3 : j = j / 3 * 3 ∨ j = j / 3 * 3 + 1 ∨ j = j / 3 * 3 + 2 := by omega
    rcases h3 with h3 | h3 | h3
    · rw [h3, cell3_0]; exact a0
    · rw [h3, cell3_1, ← Nat.add_assoc]; exact a1
    · rw [h3, cell3_2, ← Nat.add_assoc]; exact a2
  case c2 => intro u hu; simp at hu; obtain ⟨i, _, rfl⟩ := hu; exact cell3_one x i
  case c3 => simp only [maxLen]; omega
  case c4 => omega
  case c5 => simp
  intro v' w1 hown hgrow hnn
  obtain ⟨g, cap, F, rfl, hg, hnc, hm, hr, hc⟩ := own_rows (w := w) hn0 hown
  have hbel : Below w.heap.size w w1 := ((Below.refl _ _).alloc (Nat.le_refl _) _).grown hgrow (by simp) (fun k hk => by simp [Value.ownBlock] at hk; omega)
  have H := show Hid _ from And.intro hr (And.intro hc hm)
  clear hown hgrow hnn hs h1 hr hc hm
  go_wp2_with fail
  go_ret
  exact ⟨g, cap, F, by simp, hg, hnc, H.out.2.2, H.out.1, H.out.2.1, hbel⟩
end Go.Proofs.Ybulkexnoq
