import Derived.Test.YbulkexnocFmtABase
import Derived.Deep.AppendLies
import Derived.Deep.RegionLawGrows
import Derived.Deep.RegionHeld3
namespace Go.Proofs.YbulkexnocFmt
open Go.RowKit
set_option linter.unusedVariables false

/-- The number of the first region of a piece of code. -/
def headReg : Code → Nat
  | .region k _ _ => k
  | .seq a _ => headReg a
  | .block _ c => headReg c
  | .loop c => headReg c
  | .scope c => headReg c
  | _ => 1000000
/-- The chain of statements that begins with region r, wherever it lies. -/
def find (r : Nat) : Code → Option Code
  | .seq a b => match headReg a == r with
    | true => some (.seq a b)
    | false => match find r a with
      | some c => some c
      | none => find r b
  | .block _ c => find r c
  | .loop c => find r c
  | .scope c => find r c
  | .cond _ a b => match find r a with
    | some c => some c
    | none => find r b
  | _ => none
def chain (r : Nat) (c : Code) : Code := (find r c).getD .skip

theorem Ybaf.info23 : (Ybaf.prog.info? 23).map (fun i => (i.zero, i.size, i.bytes)) = some (some (.slice none 0 0), 1, 24) := by kernel_rfl
theorem Ybaf.info3 : (Ybaf.prog.info? 3).map (fun i => (i.zero, i.size, i.bytes)) = some (some (.int .i64 0), 1, 8) := by kernel_rfl
theorem Ybaf.info5 : (Ybaf.prog.info? 5).map (fun i => (i.zero, i.size, i.bytes)) = some (some (.int .u8 0), 1, 1) := by kernel_rfl

/-- One value appended to a nil slice. -/
theorem append_one (V : World) (t ty e : TypeId) (z x : Value) (bytes X : Nat) (ht : Ybaf.prog.underlying t = some (.slice e)) (hinfo : (Ybaf.prog.info? e).map (fun i => (i.zero, i.size, i.bytes)) = some (some z, 1, bytes)) (hz1 : z.cells.size = 1)
    (hby : bytes ≤ 24) (hX : V.heap[X]? = some (.cells #[x] e (0, 0))) (h1 : x.oneCell' = true) :
    ∃ g cap w', (Builtin.append_ #[t, t] ty #[.slice none 0 0, .slice (some ⟨X, 0, none⟩) 1 1]).run Ybaf.prog V = .ok (.slice (some ⟨g, 0, none⟩) 1 cap) w' ∧ V.heap.size ≤ g ∧ w'.cell? ⟨g, 0, none⟩ = some x ∧ Below V.heap.size V w' := by
  obtain ⟨i0, hi, hz0, hs, hb⟩ := info_parts hinfo
  obtain ⟨v', w', hrun, hown, hgrow, hv⟩ := run_append_own (P := Ybaf.prog) V V.heap.size t ty e i0 z 1 bytes ht hi hz0 hs hb hz1 (by omega) (.slice none 0 0) 0 [] ⟨rfl, .inl ⟨rfl, rfl⟩⟩ ⟨X, 0, none⟩ 1 1 [x] rfl
    (fun j u hj => by
      match j, hj with
      | 0, hj => simp at hj; subst hj; simp [Addr.add, World.cell?, hX])
    (fun u hu => by simp at hu; subst hu; exact h1) (by simp [maxLen]) (by omega) (Nat.le_refl _)
  obtain ⟨g, cap, rfl, hb', hlt'⟩ := hown.form (by omega)
  refine ⟨g, cap, w', hrun, hb', ?_, (Below.refl _ V).grown hgrow (Nat.le_refl _) (fun k hk => by cases hk)⟩
  rw [hown.cellAt 0 (by omega)]
  rfl

theorem step_first {ops : Array Oper} {oo : Oper} {a : Act} {V : World} {K : Act → World → Prop} {Q : Exit → Act → World → Prop} {Ep : Prop} (hgd : oo.guard = none) (sx x : Operand) (t e : TypeId) (z : Value) (bytes X : Nat) (xv : Value)
    (hop : oo.op = Op.call { callee := Callee.builtin Builtin.append, args := #[sx, x], argTypes := #[t, t] })
    (ht : Ybaf.prog.underlying t = some (.slice e)) (hinfo : (Ybaf.prog.info? e).map (fun i => (i.zero, i.size, i.bytes)) = some (some z, 1, bytes)) (hz1 : z.cells.size = 1) (hby : bytes ≤ 24)
    (hs : a.eval sx = .slice none 0 0) (hx : a.eval x = .slice (some ⟨X, 0, none⟩) 1 1) (hX : V.heap[X]? = some (.cells #[xv] e (0, 0))) (h1 : xv.oneCell' = true)
    (hK : ∀ g cap w', V.heap.size ≤ g → w'.cell? ⟨g, 0, none⟩ = some xv → Below V.heap.size V w' → K (a.put oo.dst (.slice (some ⟨g, 0, none⟩) 1 cap)) w') :
    if Region.wanted oo (yielded ops a.tmps) = true then Oper.wp Ybaf.prog oo a V K Q else Ep := by
  have hw : Region.wanted oo (yielded ops a.tmps) = true := by simp [Region.wanted, hgd]
  rw [if_pos hw]
  obtain ⟨g, cap, w', hrun, b1, b2, b3⟩ := append_one V t oo.type e z xv bytes X ht hinfo hz1 hby hX h1
  unfold Oper.wp
  simp [execOp, hop, resolve, invoke, builtin, hs, hx, hrun, Result.andThen]
  exact hK g cap w' b1 b2 b3

theorem seal_small (w : World) (D : Nat) (p : Option Addr) (n c : Nat) (h2 : w.cell? ⟨D, 575, none⟩ = some (.slice p n c)) (hn : n < 64512) :
    Calls Ybaf.prog 10 #[.pointer (some ⟨D, 573, none⟩)] w fun e w' => e = .returned (.tuple #[]) ∧ w' = w := by
  have hn' : (n : Int) < 64512 := by omega
  go_enter Ybaf.func10, Ybaf.ntmps10
  go_wp2
  refine bodyPost_ret (results_none rfl _ _ _) rfl ?_
  exact ⟨rfl, rfl⟩

theorem keeps {w w1 : World} (ob : Obj) {D t m : Nat} (k : Nat) {F : Nat → Value} {x : Value} (h : w.rowIs D t m F) (e : F k = x) (b1 : w1.os = (w.alloc ob).os) (b2 : w1.tape = (w.alloc ob).tape) (b3 : w1.output = (w.alloc ob).output)
    (b4 : (w.alloc ob).heap.size ≤ w1.heap.size) (b5 : ∀ k, k < (w.alloc ob).heap.size → w1.heap[k]? = (w.alloc ob).heap[k]?) (hk : k < m) :
    w1.frozen? ⟨D, k, none⟩ = false ∧ w1.cell? ⟨D, k, none⟩ = some x ∧ w1.rowIs D t m F ∧ Below w.heap.size w w1 := by
  have hb : Below (w.alloc ob).heap.size (w.alloc ob) w1 := ⟨b1, b2, b3, b4, b5⟩
  have h1 : w1.rowIs D t m F := (h.alloc ob).of_block (hb.block D (by have := h.lt; simp; omega))
  exact ⟨h1.frozen k, by rw [h1.cell hk, e], h1, ((Below.refl _ w).alloc (Nat.le_refl _) ob).trans (hb.mono (by simp))⟩

def Sealed (w : World) (D : Nat) (F : Nat → Value) (p : Option Addr) (n c : Nat) (base : Int) (w' : World) : Prop := ∃ g1 c1 g2 c2 g3,
      w'.rowIs D 80 579 (fun i => if i = 575 then .slice (some ⟨g3, 0, none⟩) 0 65536 else if i = 576 then .int .i64 (wrap64 (base + n)) else if i = 574 then .slice (some ⟨g2, 0, none⟩) 1 c2 else if i = 573 then .slice (some ⟨g1, 0, none⟩) 1 c1 else F i) ∧
      w'.cell? ⟨g1, 0, none⟩ = some (.slice p n c) ∧ w'.cell? ⟨g2, 0, none⟩ = some (.int .i64 base) ∧ (∀ b, b < w.heap.size → b ≠ D → w'.heap[b]? = w.heap[b]?) ∧ Below D w w'

theorem rowIs_of {w : World} {D t m : Nat} {F : Nat → Value} (h : w.rowIs D t m F) : w.rowIs D t m F := h

theorem lt_of_cell {w : World} {a : Addr} {x : Value} (h : w.cell? a = some x) : a.block < w.heap.size := by
  rcases Nat.lt_or_ge a.block w.heap.size with h1 | h1
  · exact h1
  · simp [World.cell?, Array.getElem?_eq_none h1] at h
theorem cell_keep {w1 w' : World} {D k g : Nat} {x v : Value} (hc : w1.cell? ⟨g, 0, none⟩ = some x) (hne : g ≠ D)
    (h : ∀ b, b < (w1.setCell ⟨D, k, none⟩ v).heap.size → b ≠ D → w'.heap[b]? = (w1.setCell ⟨D, k, none⟩ v).heap[b]?) : w'.cell? ⟨g, 0, none⟩ = some x := by
  have hlt : g < w1.heap.size := lt_of_cell hc
  have h1 := h g (by rw [World.size_setCell]; exact hlt) hne
  rw [Below.heap_setCell _ _ _ _ hne] at h1
  exact (World.cell?_of_block (w := w1) h1).trans hc

end Go.Proofs.YbulkexnocFmt
