import Derived.Test.YbulkexnocBRel
import Derived.Deep.RegionLawGrows
namespace Go.Proofs.Ybulkexnoc
open Go.RowKit

theorem Yba.info42 : (Yba.prog.info? 42).map (fun i => (i.zero, i.size, i.bytes)) = some (some (.agg #[.string ⟨#[]⟩, .int .i64 0]), 2, 24) := by kernel_rfl

/-- The cells of the pairs (name, number), one behind the other. -/
def cellOf (s : Nat → ByteArray) (v : Nat → Int) (q : Nat) : Value := if q % 2 = 0 then .string (s (q / 2)) else .int .i64 (v (q / 2))
theorem cellOf_name (s : Nat → ByteArray) (v : Nat → Int) (j : Nat) : cellOf s v (j * 2) = .string (s j) := by
  unfold cellOf; rw [if_pos (by omega)]; congr 2; omega
theorem cellOf_num (s : Nat → ByteArray) (v : Nat → Int) (j : Nat) : cellOf s v (j * 2 + 1) = .int .i64 (v j) := by
  unfold cellOf; rw [if_neg (by omega)]; congr 2; omega
theorem cellOf_one (s : Nat → ByteArray) (v : Nat → Int) (q : Nat) : (cellOf s v q).oneCell' = true := by
  unfold cellOf; split <;> rfl

/-- Where the j pairs of the bindings E lie: in its own array, or in a row of their own. -/
def Nats (s : Nat → ByteArray) (v : Nat → Int) (w : World) (E : Nat) (F : Nat → Value) (g o cap j : Nat) : Prop :=
  (g = E ∧ o = 3 ∧ cap = 2 ∧ j ≤ 2 ∧ ∀ q, q < j * 2 → F (3 + q) = cellOf s v q) ∨
  (o = 0 ∧ 2 < j ∧ w.ownsRow (E + 1) 42 2 (.slice (some ⟨g, 0, none⟩) j cap) j ((List.range (j * 2)).map (cellOf s v)))

variable {s : Nat → ByteArray} {v : Nat → Int}

theorem range_two (f : Nat → Value) (j : Nat) : (List.range (j * 2)).map f ++ [f (j * 2), f (j * 2 + 1)] = (List.range ((j + 1) * 2)).map f := by
  rw [show (j + 1) * 2 = j * 2 + 1 + 1 by omega, List.range_succ, List.range_succ]
  simp

theorem append_nats {V : World} {E : Nat} {F : Nat → Value} {g o cap j X ty : Nat} (hE : V.rowIs E 45 8 F) (h : Nats s v V E F g o cap j) (hj : j < 65536)
    (hX : V.heap[X]? = some (.cells #[.string (s j), .int .i64 (v j)] 42 (0, 0))) :
    ∃ g' o' cap' w' F', (Builtin.append_ #[39, 39] ty #[.slice (some ⟨g, o, none⟩) j cap, .slice (some ⟨X, 0, none⟩) 1 1]).run Yba.prog V = .ok (.slice (some ⟨g', o', none⟩) (j + 1) cap') w' ∧
      w'.rowIs E 45 8 F' ∧ F' 0 = F 0 ∧ F' 1 = F 1 ∧ F' 2 = F 2 ∧ F' 7 = F 7 ∧ Nats s v w' E F' g' o' cap' (j + 1) ∧
      (∀ b, b < V.heap.size → b ≠ E → (∀ c, V.heap[b]? ≠ some (.cells c 42 (0, 0))) → w'.heap[b]? = V.heap[b]?) ∧ Below E V w' := by
  obtain ⟨i0, hi, hz0, hz1, hz2⟩ := info_parts Yba.info42
  have hElt := hE.lt
  have hnews : ∀ q u, [cellOf s v (j * 2), cellOf s v (j * 2 + 1)][q]? = some u → V.cell? ((⟨X, 0, none⟩ : Addr).add q) = some u := by
    intro q u hq
    match q, hq with
    | 0, hq => simp at hq; subst hq; rw [cellOf_name]; simp [Addr.add, World.cell?, hX]
    | 1, hq => simp at hq; subst hq; rw [cellOf_num]; simp [Addr.add, World.cell?, hX]
  have h1c : ∀ u ∈ [cellOf s v (j * 2), cellOf s v (j * 2 + 1)], u.oneCell' = true := by
    intro u hu
    simp at hu
    rcases hu with rfl | rfl <;> exact cellOf_one _ _ _
  rcases h with ⟨rfl, rfl, rfl, hj2, hF⟩ | ⟨rfl, hj2, hown⟩
  · rcases Nat.lt_or_ge j 2 with hlt | hge
    · have hrun := run_append_room_cells (P := Yba.prog) V 39 ty 42 i0 Yba.underlying39 hi g 3 j 2 ⟨X, 0, none⟩ 1 1 [cellOf s v (j * 2), cellOf s v (j * 2 + 1)] (by simp [hz1]) hnews h1c (by omega)
        (fun q hq => by rw [hz1, hE.cell (by simp at hq; omega)]; rfl) (fun q _ => hE.frozen _)
      rw [hz1] at hrun
      refine ⟨g, 3, 2, _, _, hrun, (hE.set (3 + j * 2) _).set (3 + j * 2 + 1) _, ?_, ?_, ?_, ?_, .inl ⟨rfl, rfl, rfl, by omega, ?_⟩, ?_, ?_⟩
      · simp only [show ¬ (0 = 3 + j * 2 + 1) by omega, show ¬ (0 = 3 + j * 2) by omega, if_false]
      · simp only [show ¬ (1 = 3 + j * 2 + 1) by omega, show ¬ (1 = 3 + j * 2) by omega, if_false]
      · simp only [show ¬ (2 = 3 + j * 2 + 1) by omega, show ¬ (2 = 3 + j * 2) by omega, if_false]
      · simp only [show ¬ (7 = 3 + j * 2 + 1) by omega, show ¬ (7 = 3 + j * 2) by omega, if_false]
      · intro q hq
        by_cases e1 : q = j * 2 + 1
        · subst e1; simp only [show 3 + (j * 2 + 1) = 3 + j * 2 + 1 by omega, if_true]
        · by_cases e2 : q = j * 2
          · subst e2; simp only [show ¬ (3 + j * 2 = 3 + j * 2 + 1) by omega, if_true, if_false]
          · simp only [show ¬ (3 + q = 3 + j * 2 + 1) by omega, show ¬ (3 + q = 3 + j * 2) by omega, if_false]
            exact hF q (by omega)
      · intro b _ hbe _
        show ((V.setCell ⟨g, 3 + j * 2, none⟩ _).setCell ⟨g, 3 + j * 2 + 1, none⟩ _).heap[b]? = _
        rw [Below.heap_setCell _ _ _ _ hbe, Below.heap_setCell _ _ _ _ hbe]
      · exact ((Below.refl g V).setCell (p := ⟨g, 3 + j * 2, none⟩) (Nat.le_refl _) _).setCell (p := ⟨g, 3 + j * 2 + 1, none⟩) (Nat.le_refl _) _
    · obtain rfl : j = 2 := by omega
      obtain ⟨v', w', hrun, hown, hgrow⟩ := run_append_arg_grows (P := Yba.prog) V 39 ty 42 i0 (.agg #[.string ⟨#[]⟩, .int .i64 0]) 2 24 Yba.underlying39 hi hz0 hz1 hz2 rfl (by omega) ⟨g, 3, none⟩ 2 2 ((List.range (2 * 2)).map (cellOf s v)) (by simp)
        (fun q u hq => by
          have hq4 : q < 4 := by
            rcases Nat.lt_or_ge q 4 with h | h
            · exact h
            · simp [h] at hq
          simp [hq4] at hq
          subst hq
          have e : (⟨g, 3, none⟩ : Addr).add q = ⟨g, 3 + q, none⟩ := by unfold Addr.add; split <;> simp_all
          rw [e, hE.cell (by omega), hF q (by omega)]) ⟨X, 0, none⟩ 1 1 [cellOf s v (2 * 2), cellOf s v (2 * 2 + 1)] (by simp) hnews (by omega) (by simp [maxLen]) (by omega)
      rw [range_two] at hown
      obtain ⟨g', cap', rfl, hb', hlt'⟩ := hown.form (by omega)
      have hEw : w'.rowIs g 45 8 F := hE.of_block (hgrow.block g hElt (by simp))
      refine ⟨g', 0, cap', w', F, hrun, hEw, rfl, rfl, rfl, rfl, .inr ⟨rfl, by omega, ?_⟩, fun b hb _ _ => hgrow.block b hb (by simp), (Below.refl g V).grown hgrow (by omega) (fun k hk => by simp at hk)⟩
      refine ⟨hown.1, ?_⟩
      rcases hown.2 with h | ⟨a1, a2, a3, a4, a5, a6⟩
      · exact .inl h
      · exact .inr ⟨a1, a2, a3, a4, by omega, a6⟩
  · obtain ⟨g', cap', w', hrun, hown', hgrow, hat, hlt'⟩ := run_append_lies (P := Yba.prog) V 39 ty (E + 1) 42 i0 (.agg #[.string ⟨#[]⟩, .int .i64 0]) 2 24 Yba.underlying39 hi hz0 hz1 hz2 rfl (by omega) (.slice (some ⟨g, 0, none⟩) j cap) j ((List.range (j * 2)).map (cellOf s v)) hown
        ⟨X, 0, none⟩ 1 1 [cellOf s v (j * 2), cellOf s v (j * 2 + 1)] (by simp) hnews h1c (by omega) (by simp only [maxLen]; omega) (by omega) (by omega) V.heap.size rfl
    rw [range_two] at hown'
    have hg := (hown.lt g rfl)
    have hg42 : ∃ c, V.heap[g]? = some (.cells c 42 (0, 0)) := by
      rcases id hown.2 with ⟨e, _⟩ | ⟨g1, cap1, cur, e, _, hh, _⟩
      · cases e
      · injection e with e1 e2 e3
        injection e1 with e1
        injection e1 with e1
        subst e1
        exact ⟨cur, hh⟩
    have hEw : w'.rowIs E 45 8 F := hE.of_block (hgrow.block E hElt (by simp [Value.ownBlock]; omega))
    refine ⟨g', 0, cap', w', F, hrun, hEw, rfl, rfl, rfl, rfl, .inr ⟨rfl, by omega, hown'⟩, fun b hb _ hn => hgrow.block b hb (by
      simp [Value.ownBlock]
      rintro rfl
      obtain ⟨c, hc⟩ := hg42
      exact hn c hc), (Below.refl E V).grown hgrow (by omega) (fun k hk => by simp [Value.ownBlock] at hk; omega)⟩
end Go.Proofs.Ybulkexnoc
