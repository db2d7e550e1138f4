import Derived.Test.YbulkexnocRows
import Derived.WalkKit
import Derived.WalkLawsBesides
import Derived.WalkSpells
import Derived.Deep.OwnRows
import Derived.Deep.Draws
import Derived.Deep.QuietTactic
import Derived.BigQuiet
import Derived.LaidEqlPtr
namespace Go.Proofs.Ybulkexnoc
open Go.RowKit

def fresh (E : Nat) (tv ov : Value) : Array Value := #[tv, .slice (some ⟨E, 3, none⟩) 0 2, .map none, .string ⟨#[]⟩, .int .i64 0, .string ⟨#[]⟩, .int .i64 0, ov]

theorem newBindings_any (w : World) :
    Calls Yba.prog 5 #[.map none, .pointer none] w fun e w' => e = .returned (.pointer (some ⟨w.heap.size, 0, none⟩)) ∧ w' = w.alloc (.cells (fresh w.heap.size (.map none) (.pointer none)) 45) := by
  go_enter Yba.func5, Yba.ntmps5
  go_wp2
  go_end0
  go_wp2
  go_ret
  exact ⟨rfl, rfl⟩

theorem reset_any (w : World) (E : Nat) (F : Nat → Value) (h : w.rowIs E 45 8 F) :
    Calls Yba.prog 11 #[.pointer (some ⟨E, 0, none⟩), .map none, .pointer none] w fun e w' => e = .returned (.tuple #[]) ∧ w'.rowIs E 45 8 (fun i => (fresh E (.map none) (.pointer none)).getD i undef) ∧
      (∀ b, b ≠ E → w'.heap[b]? = w.heap[b]?) ∧ Below E w w' := by
  have c0 := h.cell (show 0 < 8 by omega)
  have c1 := h.cell (show 1 < 8 by omega)
  have c2 := h.cell (show 2 < 8 by omega)
  have c3 := h.cell (show 3 < 8 by omega)
  have c4 := h.cell (show 4 < 8 by omega)
  have c5 := h.cell (show 5 < 8 by omega)
  have c6 := h.cell (show 6 < 8 by omega)
  have c7 := h.cell (show 7 < 8 by omega)
  have f0 := h.frozen 0
  have f1 := h.frozen 1
  have f2 := h.frozen 2
  have f3 := h.frozen 3
  have f4 := h.frozen 4
  have f5 := h.frozen 5
  have f6 := h.frozen 6
  have f7 := h.frozen 7
  go_enter Yba.func11, Yba.ntmps11
  go_wp2
  go_end0
  refine ⟨rfl, ?_, ?_, ?_⟩
  · refine (((((((((h.set 0 _).set 1 _).set 2 _).set 3 _).set 4 _).set 5 _).set 6 _).set 7 _).set 1 _).congr (fun i hi => ?_)
    have : i = 0 ∨ i = 1 ∨ i = 2 ∨ i = 3 ∨ i = 4 ∨ i = 5 ∨ i = 6 ∨ i = 7 := by omega
    rcases this with rfl | rfl | rfl | rfl | rfl | rfl | rfl | rfl <;> rfl
  · intro b hb
    repeat rw [Below.heap_setCell _ _ _ _ hb]
  · exact ((((((((((Below.refl E w).setCell (p := ⟨E, 0, none⟩) (Nat.le_refl _) _).setCell (p := ⟨E, 1, none⟩) (Nat.le_refl _) _).setCell (p := ⟨E, 2, none⟩) (Nat.le_refl _) _).setCell (p := ⟨E, 3, none⟩) (Nat.le_refl _) _).setCell (p := ⟨E, 4, none⟩) (Nat.le_refl _) _).setCell (p := ⟨E, 5, none⟩) (Nat.le_refl _) _).setCell (p := ⟨E, 6, none⟩) (Nat.le_refl _) _).setCell (p := ⟨E, 7, none⟩) (Nat.le_refl _) _).setCell (p := ⟨E, 1, none⟩) (Nat.le_refl _) _)

/-- 'zzs194040bfresh' of bindings that hold nothing. -/
theorem fresh_any (w : World) (E : Nat) (h : w.rowIs E 45 8 (fun i => (fresh E (.map none) (.pointer none)).getD i undef)) :
    Calls Yba.prog 8 #[.pointer (some ⟨E, 0, none⟩)] w fun e w' => e = .returned (.bool true) ∧ ∃ m, w' = w.drewN m := by
  have c0 : w.cell? ⟨E, 0, none⟩ = some (.map none) := h.cell (show 0 < 8 by omega)
  have c1 : w.cell? ⟨E, 1, none⟩ = some (.slice (some ⟨E, 3, none⟩) 0 2) := h.cell (show 1 < 8 by omega)
  have c2 : w.cell? ⟨E, 2, none⟩ = some (.map none) := h.cell (show 2 < 8 by omega)
  have c3 : w.cell? ⟨E, 3, none⟩ = some (.string ⟨#[]⟩) := h.cell (show 3 < 8 by omega)
  have c4 : w.cell? ⟨E, 4, none⟩ = some (.int .i64 0) := h.cell (show 4 < 8 by omega)
  have c5 : w.cell? ⟨E, 5, none⟩ = some (.string ⟨#[]⟩) := h.cell (show 5 < 8 by omega)
  have c6 : w.cell? ⟨E, 6, none⟩ = some (.int .i64 0) := h.cell (show 6 < 8 by omega)
  have c7 : w.cell? ⟨E, 7, none⟩ = some (.pointer none) := h.cell (show 7 < 8 by omega)
  clear h
  have m0 : ∀ V : World, (binOp .neq 38 (.map none) (.map none)).run Yba.prog V = .ok (.bool false) V := fun _ => by kernel_rfl
  have m1 : ∀ V : World, (binOp .neq 40 (.map none) (.map none)).run Yba.prog V = .ok (.bool false) V := fun _ => by kernel_rfl
  have m2 : ∀ V : World, (binOp .neq 43 (.agg #[.string ⟨#[]⟩, .int .i64 0, .string ⟨#[]⟩, .int .i64 0]) (.agg #[.string ⟨#[]⟩, .int .i64 0, .string ⟨#[]⟩, .int .i64 0])).run Yba.prog V = .ok (.bool false) V := fun _ => by kernel_rfl
  go_enter Yba.func8, Yba.ntmps8
  go_wp2
  go_ret
  exact ⟨rfl, 0, rfl⟩
end Go.Proofs.Ybulkexnoc
