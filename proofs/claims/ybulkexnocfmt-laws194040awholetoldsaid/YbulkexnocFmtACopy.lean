import Derived.Test.YbulkexnocFmtAEq
import Derived.Laws.OwnMore
namespace Go.Proofs.YbulkexnocFmt
open Go.RowKit
set_option linter.unusedVariables false

/-- append([]byte(nil), s...): a copy, or nil. -/
theorem copy_run (V : World) (p : Option Addr) (n c : Nat) (f : Nat → Int) (ty : TypeId) (hs : Sees V p n f) (hn : n ≤ 1048576) :
    ∃ pb cb w', (Builtin.append_ #[23, 23] ty #[.slice none 0 0, .slice p n c]).run Ybaf.prog V = .ok (.slice pb n cb) w' ∧ Below V.heap.size V w' ∧ Sees w' pb n f ∧ (pb = none → n = 0 ∧ cb = 0) ∧ n ≤ cb ∧
      (∀ b o, pb = some ⟨b, o, none⟩ → b < w'.heap.size) := by
  obtain ⟨i0, hi, hz0, hz1, hz2⟩ := info_parts Ybaf.info5
  rcases Nat.eq_zero_or_pos n with rfl | h0
  · have hrun : (Builtin.append_ #[23, 23] ty #[.slice none 0 0, .slice p 0 c]).run Ybaf.prog V = .ok (.slice none 0 0) V := by
      cases p with
      | none => simp [Builtin.append_, run_underlying Ybaf.underlying23, sizeOf, typeInfo, zeroValue, hi, hz0, Builtin.lenOf, Builtin.firstCells]
      | some a =>
        have hl : (loadCells a 0).run Ybaf.prog V = .ok #[] V := by
          have := run_loadCells_list (P := Ybaf.prog) V a [] (fun j v hj => by simp at hj)
          simpa using this
        simp [Builtin.append_, run_underlying Ybaf.underlying23, sizeOf, typeInfo, zeroValue, hi, hz0, Builtin.lenOf, Builtin.firstCells, hl]
    exact ⟨none, 0, V, hrun, Below.refl _ _, .inl rfl, fun _ => ⟨rfl, rfl⟩, Nat.le_refl _, fun b o h => by cases h⟩
  · rcases hs with hs | ⟨b, o, rfl, hs⟩
    · omega
    · obtain ⟨v', w', hrun, hown, hgrow, hv⟩ := run_append_own (P := Ybaf.prog) V V.heap.size 23 ty 5 i0 (.int .u8 0) 1 1 Ybaf.underlying23 hi hz0 hz1 hz2 rfl (by omega) (.slice none 0 0) 0 [] ⟨rfl, .inl ⟨rfl, rfl⟩⟩ ⟨b, o, none⟩ n c ((List.range n).map fun i => .int .u8 (f i)) (by simp)
        (fun j u hj => by
          have hjn : j < n := by
            rcases Nat.lt_or_ge j n with h | h
            · exact h
            · simp [h] at hj
          simp [hjn] at hj
          subst hj
          have e : (⟨b, o, none⟩ : Addr).add j = ⟨b, o + j, none⟩ := by simp [Addr.add]
          rw [e]
          exact hs j hjn)
        (fun u hu => by simp at hu; obtain ⟨i, _, rfl⟩ := hu; rfl) (by simp only [maxLen]; omega) (by omega) (Nat.le_refl _)
      obtain ⟨hl, h⟩ := id hown
      rcases h with ⟨h, _⟩ | ⟨g, cap, cur, rfl, hb, hh, hnc, hm, hsz, ht⟩
      · have := hv.1 h
        omega
      · refine ⟨some ⟨g, 0, none⟩, cap, w', by simpa using hrun, (Below.refl _ V).grown hgrow (Nat.le_refl _) (fun k hk => by cases hk), .inr ⟨g, 0, rfl, fun i hi => ?_⟩, (fun h => by cases h), by simpa using hnc, fun b o h => ?_⟩
        · have e1 : (cur.toList.take ((0 + n) * 1))[i]? = some (.int .u8 (f i)) := by
            rw [ht]; simp [hi]
          have e2 : cur[i]? = some (.int .u8 (f i)) := by
            rw [List.getElem?_take, if_pos (by omega)] at e1; simpa using e1
          simp only [World.cell?, hh, Nat.zero_add]
          exact e2
        · cases h
          rcases Nat.lt_or_ge g w'.heap.size with h | h
          · exact h
          · rw [Array.getElem?_eq_none h] at hh; cases hh

theorem wpList_copy {ops : Array Oper} {rest : List Oper} {oo : Oper} {a : Act} {Q : Exit → Act → World → Prop} {V : World} {p : Option Addr} {n c : Nat} {f : Nat → Int} (hgd : oo.guard = none) (sx x : Operand)
    (hop : oo.op = .call { callee := .builtin .append, args := #[sx, x], argTypes := #[23, 23] }) (hs0 : a.eval sx = .slice none 0 0) (hx : a.eval x = .slice p n c) (hs : Sees V p n f) (hn : n ≤ 1048576)
    (hK : ∀ pb cb w', Below V.heap.size V w' → Sees w' pb n f → (pb = none → n = 0 ∧ cb = 0) → n ≤ cb → (∀ b o, pb = some ⟨b, o, none⟩ → b < w'.heap.size) → wpList Ybaf.prog ops Q rest (a.put oo.dst (.slice pb n cb)) w') :
    wpList Ybaf.prog ops Q (oo :: rest) a V :=
  wpList_plain hgd fun _ hK' => by
    obtain ⟨pb, cb, w', hrun, b1, b2, b3, b4, b5⟩ := copy_run V p n c f oo.type hs hn
    unfold Oper.wp execOp
    simp only [hop, resolve, invoke, builtin, Sem.run_bind, Sem.run_pure, Result.andThen_ok, List.map_toArray, List.map_cons, List.map_nil, hs0, hx, hrun]
    exact hK' _ _ (hK pb cb w' b1 b2 b3 b4 b5)
end Go.Proofs.YbulkexnocFmt
