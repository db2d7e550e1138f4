import Derived.Test.YbulkexnocFmtACount
import Derived.Laws.BytesArg
namespace Go.Proofs.YbulkexnocFmt
open Go.RowKit
set_option linter.unusedVariables false

def Sees (w : World) (p : Option Addr) (n : Nat) (f : Nat → Int) : Prop := n = 0 ∨ ∃ b o, p = some ⟨b, o, none⟩ ∧ ∀ i, i < n → w.cell? ⟨b, o + i, none⟩ = some (.int .u8 (f i))
theorem Sees.keep {w w' : World} {p : Option Addr} {n : Nat} {f : Nat → Int} (h : Sees w p n f) (hb : ∀ b o, p = some ⟨b, o, none⟩ → 0 < n → w'.heap[b]? = w.heap[b]?) : Sees w' p n f := by
  rcases h with h | ⟨b, o, e, h⟩
  · exact .inl h
  · rcases Nat.eq_zero_or_pos n with h0 | h0
    · exact .inl h0
    · exact .inr ⟨b, o, e, fun i hi => by rw [World.cell?_of_block (w := w) (hb b o e h0)]; exact h i hi⟩
theorem Sees.later {w w' : World} {p : Option Addr} {n : Nat} {f : Nat → Int} (h : Sees w p n f) (hb : Below w.heap.size w w') : Sees w' p n f := by
  rcases h with h | ⟨b, o, e, h⟩
  · exact .inl h
  · exact .inr ⟨b, o, e, fun i hi => cell_later hb (h i hi)⟩

theorem conv_bytes (w : World) (p : Option Addr) (n c : Nat) (f : Nat → Int) (h : Sees w p n f) : (convert 23 9 (.slice p n c)).run Ybaf.prog w = .ok (.string (strOfNums ((List.range n).map f))) w := by
  rcases h with rfl | ⟨b, o, rfl, h⟩
  · cases p with
    | none => exact run_convert_bytes_nil (P := Ybaf.prog) w 23 5 Ybaf.underlying23 Ybaf.underlying5 0 c 9 Ybaf.underlying9
    | some a =>
      have hl : (loadCells a 0).run Ybaf.prog w = .ok #[] w := by
        have := run_loadCells_list (P := Ybaf.prog) w a [] (fun j v hj => by simp at hj)
        simpa using this
      rw [run_convert_bytes_string w 23 9 5 _ 0 c Ybaf.underlying23 Ybaf.underlying5 Ybaf.underlying9, run_bytesToString w _ 0 c [] hl]
      rfl
  · refine run_convert_bytes_arg (P := Ybaf.prog) w 23 5 Ybaf.underlying23 Ybaf.underlying5 b o n c _ (by simp) (fun i hi => ?_) 9 Ybaf.underlying9
    rw [h i hi]
    simp [hi]

theorem equal_any (w : World) (p q : Option Addr) (n c d : Nat) (f : Nat → Int) (h1 : Sees w p n f) (h2 : Sees w q n f) :
    Calls Ybaf.prog 5 #[.slice p n c, .slice q n d] w fun e w' => e = .returned (.bool true) ∧ w' = w := by
  have c1 := conv_bytes w p n c f h1
  have c2 := conv_bytes w q n d f h2
  go_enter Ybaf.func5, Ybaf.ntmps5
  go_wp2
  go_ret
  exact ⟨rfl, rfl⟩
end Go.Proofs.YbulkexnocFmt
