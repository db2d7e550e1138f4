import Derived.Test.YbulkexnocBEnv
import Derived.Deep.RegionHeld3
namespace Go.Proofs.Ybulkexnoc
open Go.RowKit
variable {s : Nat → ByteArray} {v : Nat → Int}

theorem Nats.later {V V' : World} {E : Nat} {F : Nat → Value} {g o cap j : Nat} (h : Nats s v V E F g o cap j) (hb : Below V.heap.size V V') : Nats s v V' E F g o cap j := by
  rcases h with h | ⟨h1, h2, h3⟩
  · exact .inl h
  · exact .inr ⟨h1, h2, own_later h3 hb⟩
theorem Nats.setE {V : World} {E : Nat} {F : Nat → Value} {g o cap j c : Nat} (h : Nats s v V E F g o cap j) (hc : c < 3 ∨ c = 7) (x : Value) :
    Nats s v (V.setCell ⟨E, c, none⟩ x) E (fun i => if i = c then x else F i) g o cap j := by
  rcases h with ⟨a, b, e, f, k⟩ | ⟨h1, h2, h3⟩
  · refine .inl ⟨a, b, e, f, fun q hq => ?_⟩
    simp only [show ¬ (3 + q = c) by omega, if_false]
    exact k q hq
  · exact .inr ⟨h1, h2, ownsRow_setCell_below h3 (by show E < E + 1; omega) _⟩

/-- The bindings that a round is making: D = wr.heap.size holds the round's 'd', E = D + 1 the bindings. -/
def Cur (s : Nat → ByteArray) (v : Nat → Int) (wr : World) (dc : Nat → Value) (T iv : Bool) (ov : Value) (g o cap j : Nat) (V : World) : Prop :=
  Below wr.heap.size wr V ∧ V.rowIs wr.heap.size 26 4 dc ∧
  ∃ (F : Nat → Value) (tm im : Option Nat), V.rowIs (wr.heap.size + 1) 45 8 F ∧ F 0 = .map tm ∧ tm.isSome = T ∧ F 1 = .slice (some ⟨g, o, none⟩) j cap ∧ F 2 = .map im ∧ im.isSome = iv ∧ F 7 = ov ∧ Nats s v V (wr.heap.size + 1) F g o cap j

variable {wr : World} {dc : Nat → Value} {T iv : Bool} {ov : Value} {g o cap j : Nat}

theorem Cur.later {V V' : World} (h : Cur s v wr dc T iv ov g o cap j V) (hb : Below V.heap.size V V') : Cur s v wr dc T iv ov g o cap j V' := by
  obtain ⟨h1, h2, F, tm, im, a1, a2, a3, a4, a5, a6, a7, a8⟩ := h
  exact ⟨below_next h1 hb, h2.of_block (hb.block _ h2.lt), F, tm, im, a1.of_block (hb.block _ a1.lt), a2, a3, a4, a5, a6, a7, a8.later hb⟩
theorem Cur.drew {V : World} (h : Cur s v wr dc T iv ov g o cap j V) : Cur s v wr dc T iv ov g o cap j V.drew := h.later ⟨rfl, rfl, rfl, Nat.le_refl _, fun _ _ => rfl⟩

theorem Cur.setTypes {V : World} (h : Cur s v wr dc T iv ov g o cap j V) (r : Nat) : Cur s v wr dc true iv ov g o cap j (V.setCell ⟨wr.heap.size + 1, 0, none⟩ (.map (some r))) := by
  obtain ⟨h1, h2, F, tm, im, a1, a2, a3, a4, a5, a6, a7, a8⟩ := h
  exact ⟨h1.setCell (by show wr.heap.size ≤ wr.heap.size + 1; omega) _, h2.setOther (by show wr.heap.size ≠ wr.heap.size + 1; omega) _, _, some r, im, a1.set 0 _, rfl, rfl, a4, a5, a6, a7, a8.setE (.inl (by omega)) _⟩
theorem Cur.setOuter {V : World} (h : Cur s v wr dc T iv ov g o cap j V) (x : Value) : Cur s v wr dc T iv x g o cap j (V.setCell ⟨wr.heap.size + 1, 7, none⟩ x) := by
  obtain ⟨h1, h2, F, tm, im, a1, a2, a3, a4, a5, a6, a7, a8⟩ := h
  exact ⟨h1.setCell (by show wr.heap.size ≤ wr.heap.size + 1; omega) _, h2.setOther (by show wr.heap.size ≠ wr.heap.size + 1; omega) _, _, tm, im, a1.set 7 _, a2, a3, a4, a5, a6, rfl, a8.setE (.inr rfl) _⟩
theorem Cur.setIndex {V : World} (h : Cur s v wr dc T iv ov g o cap j V) (r : Nat) : Cur s v wr dc T true ov g o cap j (V.setCell ⟨wr.heap.size + 1, 2, none⟩ (.map (some r))) := by
  obtain ⟨h1, h2, F, tm, im, a1, a2, a3, a4, a5, a6, a7, a8⟩ := h
  exact ⟨h1.setCell (by show wr.heap.size ≤ wr.heap.size + 1; omega) _, h2.setOther (by show wr.heap.size ≠ wr.heap.size + 1; omega) _, _, tm, some r, a1.set 2 _, a2, a3, a4, rfl, rfl, a7, a8.setE (.inl (by omega)) _⟩

/-- What a round reads and writes of its bindings. -/
theorem Cur.facts {V : World} (h : Cur s v wr dc T iv ov g o cap j V) :
    (∃ tm im, V.cell? ⟨wr.heap.size + 1, 0, none⟩ = some (.map tm) ∧ V.cell? ⟨wr.heap.size + 1, 2, none⟩ = some (.map im)) ∧ V.cell? ⟨wr.heap.size + 1, 1, none⟩ = some (.slice (some ⟨g, o, none⟩) j cap) ∧ V.cell? ⟨wr.heap.size + 1, 7, none⟩ = some ov ∧
    (∀ i, V.frozen? ⟨wr.heap.size + 1, i, none⟩ = false) ∧ (∀ i, i < 4 → V.cell? ⟨wr.heap.size, i, none⟩ = some (dc i)) ∧ wr.heap.size + 2 ≤ V.heap.size := by
  obtain ⟨h1, h2, F, tm, im, a1, a2, a3, a4, a5, a6, a7, a8⟩ := h
  refine ⟨⟨tm, im, ?_, ?_⟩, ?_, ?_, fun i => a1.frozen i, fun i hi => h2.cell hi, a1.lt⟩
  · rw [a1.cell (by omega), a2]
  · rw [a1.cell (by omega), a5]
  · rw [a1.cell (by omega), a4]
  · rw [a1.cell (by omega), a7]

/-- A map block elsewhere is written. -/
theorem Cur.mapped {V V' : World} {r : Nat} (h : Cur s v wr dc T iv ov g o cap j V) (hg : V.grownBy V' (some r)) (hr : ∃ es c, V.heap[r]? = some (.map es c)) (hrw : wr.heap.size ≤ r) : Cur s v wr dc T iv ov g o cap j V' := by
  obtain ⟨h1, h2, F, tm, im, a1, a2, a3, a4, a5, a6, a7, a8⟩ := h
  obtain ⟨es, c, hr⟩ := hr
  have far : ∀ (b : Nat) (cs : Array Value) (t : TypeId), V.heap[b]? = some (Obj.cells cs t (0, 0)) → V'.heap[b]? = V.heap[b]? := fun b cs t hb =>
    hg.block b (lt_of_block' hb) (fun e => by injection e with e; subst e; rw [hr] at hb; cases hb)
  have hE : V'.heap[wr.heap.size + 1]? = V.heap[wr.heap.size + 1]? := by obtain ⟨c, hc, _⟩ := a1; exact far _ _ _ hc
  have hD : V'.heap[wr.heap.size]? = V.heap[wr.heap.size]? := by obtain ⟨c, hc, _⟩ := h2; exact far _ _ _ hc
  refine ⟨h1.grown hg h1.size (fun k hk => by injection hk with hk; omega), h2.of_block hD, F, tm, im, a1.of_block hE, a2, a3, a4, a5, a6, a7, ?_⟩
  rcases a8 with a8 | ⟨b1, b2, b3⟩
  · exact .inl a8
  · refine .inr ⟨b1, b2, b3.1, ?_⟩
    rcases id b3.2 with h1 | ⟨g, cap, cur, e1, e2, e3, e4⟩
    · exact .inl h1
    · exact .inr ⟨g, cap, cur, e1, e2, by rw [far _ _ _ e3]; exact e3, e4⟩

/-- 'e.nats = append(e.nats, natBinding{..})': the append, at a step of a region that draws its order. -/
theorem step_nats {ops : Array Oper} {oo : Oper} {a : Act} {V : World} {K : Act → World → Prop} {Q : Exit → Act → World → Prop} {Ep : Prop} (hgd : oo.guard = none) (sx x : Operand)
    (hop : oo.op = Op.call { callee := Callee.builtin Builtin.append, args := #[sx, x], argTypes := #[39, 39] }) (X : Nat)
    (hs : a.eval sx = .slice (some ⟨g, o, none⟩) j cap) (hx : a.eval x = .slice (some ⟨X, 0, none⟩) 1 1) (h : Cur s v wr dc T iv ov g o cap j V) (hj : j < 65536)
    (hX : V.heap[X]? = some (.cells #[.string (s j), .int .i64 (v j)] 42 (0, 0)))
    (hK : ∀ g' o' cap' w', Cur s v wr dc T iv ov g' o' cap' (j + 1) (w'.setCell ⟨wr.heap.size + 1, 1, none⟩ (.slice (some ⟨g', o', none⟩) (j + 1) cap')) → w'.cell? ⟨wr.heap.size + 1, 1, none⟩ = some (.slice (some ⟨g, o, none⟩) j cap) → w'.frozen? ⟨wr.heap.size + 1, 1, none⟩ = false →
      Below (wr.heap.size + 1) V w' → K (a.put oo.dst (.slice (some ⟨g', o', none⟩) (j + 1) cap')) w') :
    if Region.wanted oo (yielded ops a.tmps) = true then Oper.wp Yba.prog oo a V K Q else Ep := by
  have hw : Region.wanted oo (yielded ops a.tmps) = true := by simp [Region.wanted, hgd]
  rw [if_pos hw]
  obtain ⟨h1, h2, F, tm, im, a1, a2, a3, a4, a5, a6, a7, a8⟩ := h
  obtain ⟨g', o', cap', w', F', hrun, b1, b2, b3, b4, b5, b6, b7, b8⟩ := append_nats (ty := oo.type) a1 a8 hj hX
  unfold Oper.wp
  simp [execOp, hop, resolve, invoke, builtin, hs, hx, hrun, Result.andThen]
  refine hK g' o' cap' w' ?_ ?_ ?_ b8
  · have hD : w'.heap[wr.heap.size]? = V.heap[wr.heap.size]? := b8.block _ (by omega)
    refine ⟨(h1.trans (b8.mono (by omega))).setCell (by show wr.heap.size ≤ wr.heap.size + 1; omega) _, (h2.of_block hD).setOther (by show wr.heap.size ≠ wr.heap.size + 1; omega) _, _, tm, im, b1.set 1 _, ?_, a3, rfl, ?_, a6, ?_, b6.setE (.inl (by omega)) _⟩
    · show F' 0 = _; rw [b2, a2]
    · show F' 2 = _; rw [b4, a5]
    · show F' 7 = _; rw [b5, a7]
  · rw [b1.cell (by omega), b3, a4]
  · exact b1.frozen 1

/-- The bindings as they are released. -/
theorem Cur.env {V : World} {O prev : Bool} {N pe : Nat} (h : Cur s v wr dc T (decide (2 < N)) (if O && prev then ptr pe else .pointer none) g o cap N V) : EnvAt T O prev N s v (wr.heap.size + 1) pe V := by
  obtain ⟨h1, h2, F, tm, im, a1, a2, a3, a4, a5, a6, a7, a8⟩ := h
  refine ⟨F, g, o, cap, tm, im, a1, a2, a3, a4, a5, a6, a7, fun j hj => ?_, ?_⟩
  · rcases a8 with ⟨rfl, rfl, rfl, hN, hF⟩ | ⟨rfl, hN, hown⟩
    · have e1 := hF (j * 2) (by omega)
      have e2 := hF (j * 2 + 1) (by omega)
      rw [cellOf_name] at e1
      rw [cellOf_num] at e2
      refine ⟨?_, ?_⟩
      · rw [a1.cell (by omega), e1]
      · rw [show 3 + j * 2 + 1 = 3 + (j * 2 + 1) by omega, a1.cell (by omega), e2]
    · refine ⟨?_, ?_⟩
      · rw [Nat.zero_add, hown.cellAt (j * 2) (by omega)]
        simp only [List.getElem?_map, List.getElem?_range (show j * 2 < N * 2 by omega), Option.map_some, cellOf_name]
      · rw [Nat.zero_add, hown.cellAt (j * 2 + 1) (by omega)]
        simp only [List.getElem?_map, List.getElem?_range (show j * 2 + 1 < N * 2 by omega), Option.map_some, cellOf_num]
  · rcases a8 with ⟨rfl, _⟩ | ⟨rfl, hN, hown⟩
    · exact .inl rfl
    · exact .inr (own_tag hown)
end Go.Proofs.Ybulkexnoc
