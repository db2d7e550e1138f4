import Derived.Test.YbulkexnocFmtASeal
namespace Go.Proofs.YbulkexnocFmt
open Go.RowKit
set_option linter.unusedVariables false

/-- What 'wrote' leaves of the decoder. -/
def Wrote (w : World) (D : Nat) (F : Nat → Value) (p : Option Addr) (n c : Nat) (base most : Int) (chk : Bool) (w' : World) : Prop :=
  (chk = true ∧ w'.rowIs D 80 579 (fun i => if i = 575 then .slice p 0 c else F i)) ∨
  (chk = false ∧ (0 < most ∧ most < wrap64 (base + n)) ∧ w'.rowIs D 80 579 (fun i => if i = 576 then .int .i64 0 else if i = 575 then .slice none 0 0 else if i = 574 then .slice none 0 0 else if i = 573 then .slice none 0 0 else if i = 578 then .bool true else F i)) ∨
  (chk = false ∧ ¬ (0 < most ∧ most < wrap64 (base + n)) ∧ n < 64512 ∧ w'.rowIs D 80 579 F) ∨
  (chk = false ∧ ¬ (0 < most ∧ most < wrap64 (base + n)) ∧ 64512 ≤ n ∧ Sealed w D F p n c base w')

set_option maxRecDepth 100000 in
set_option maxHeartbeats 1000000 in
theorem wrote_any (w : World) (D : Nat) (F : Nat → Value) (p : Option Addr) (n c : Nat) (base most : Int) (chk : Bool) (h : w.rowIs D 80 579 F) (e0 : F 573 = .slice none 0 0) (e1 : F 574 = .slice none 0 0) (e2 : F 575 = .slice p n c)
    (e3 : F 576 = .int .i64 base) (e4 : F 577 = .int .i64 most) (e5 : F 578 = .bool chk) (hp : p = none → n = 0 ∧ c = 0) (hc : n ≤ c) :
    Calls Ybaf.prog 6 #[.pointer (some ⟨D, 573, none⟩)] w fun e w' => e = .returned (.tuple #[]) ∧ Wrote w D F p n c base most chk w' ∧ (∀ b, b < w.heap.size → b ≠ D → w'.heap[b]? = w.heap[b]?) ∧ Below D w w' := by
  have hlt := h.lt
  have k0 : w.cell? ⟨D, 573, none⟩ = some (.slice none 0 0) := by rw [h.cell (by omega), e0]
  have k1 : w.cell? ⟨D, 574, none⟩ = some (.slice none 0 0) := by rw [h.cell (by omega), e1]
  have k2 : w.cell? ⟨D, 575, none⟩ = some (.slice p n c) := by rw [h.cell (by omega), e2]
  have k3 : w.cell? ⟨D, 576, none⟩ = some (.int .i64 base) := by rw [h.cell (by omega), e3]
  have k4 : w.cell? ⟨D, 577, none⟩ = some (.int .i64 most) := by rw [h.cell (by omega), e4]
  have k5 : w.cell? ⟨D, 578, none⟩ = some (.bool chk) := by rw [h.cell (by omega), e5]
  have HR := show Hid _ from h
  have HE := show Hid _ from And.intro e0 (And.intro e1 (And.intro e2 e3))
  have ff := fun k => h.frozen k
  have f0 := ff 573
  have f1 := ff 574
  have f2 := ff 575
  have f3 := ff 576
  have f5 := ff 578
  clear h e0 e1 e2 e3 e4 e5 ff
  cases chk
  · by_cases hm : 0 < most
    · have hlen := fun V (hV : V.heap = w.heap) => len_any V D p n c base (by rw [show V.cell? ⟨D, 575, none⟩ = w.cell? ⟨D, 575, none⟩ by simp [World.cell?, hV]]; exact k2) (by rw [show V.cell? ⟨D, 576, none⟩ = w.cell? ⟨D, 576, none⟩ by simp [World.cell?, hV]]; exact k3)
      have HL := show Hid _ from hlen
      clear hlen
      by_cases hg : most < wrap64 (base + n)
      · go_enter Ybaf.func6, Ybaf.ntmps6
        go_wp2_with fail
        go_quiet ((go_at_call 9; go_must (exact Calls.quiet_of (HL.out _ rfl))))
        go_wp2_with fail
        go_end0
        refine ⟨rfl, .inr (.inl ⟨rfl, ⟨hm, hg⟩, ?_⟩), fun b hb hne => ?_, ?_⟩
        · exact ((((((rowIs_of HR.out).set 578 _).set 573 _).set 574 _).set 575 _).set 576 _)
        · repeat rw [Below.heap_setCell _ _ _ _ hne]
          rfl
        · exact ((((((below_drewN (Below.refl D w) _).setCell (p := ⟨D, 578, none⟩) (Nat.le_refl _) _).setCell (p := ⟨D, 573, none⟩) (Nat.le_refl _) _).setCell (p := ⟨D, 574, none⟩) (Nat.le_refl _) _).setCell (p := ⟨D, 575, none⟩) (Nat.le_refl _) _).setCell (p := ⟨D, 576, none⟩) (Nat.le_refl _) _)
      · by_cases hn : n < 64512
        · have hsm := fun V (hV : V.heap = w.heap) => seal_small V D p n c (by rw [show V.cell? ⟨D, 575, none⟩ = w.cell? ⟨D, 575, none⟩ by simp [World.cell?, hV]]; exact k2) hn
          have HS := show Hid _ from hsm
          have HN := show Hid _ from hn
          clear hsm hn
          go_enter Ybaf.func6, Ybaf.ntmps6
          go_wp2_with fail
          go_quiet ((go_at_call 9; go_must (exact Calls.quiet_of (HL.out _ rfl))))
          go_wp2_with fail
          refine Calls.mono (HS.out _ rfl) ?_
          rintro e w' ⟨rfl, rfl⟩
          dsimp only
          go_wp2
          go_end0
          exact ⟨rfl, .inr (.inr (.inl ⟨rfl, fun h => by have := h.2; omega, HN.out, rowIs_of HR.out⟩)), fun b hb hne => rfl, below_drewN (Below.refl D w) _⟩
        · have hsm := fun m => seal_full (w.drewN m) D F p n c base (rowIs_of HR.out) HE.out.1 HE.out.2.1 HE.out.2.2.1 HE.out.2.2.2 (Nat.le_of_not_lt hn)
          have HS := show Hid _ from hsm
          have HN := show Hid _ from hn
          clear hsm hn
          go_enter Ybaf.func6, Ybaf.ntmps6
          go_wp2_with fail
          go_quiet ((go_at_call 9; go_must (exact Calls.quiet_of (HL.out _ rfl))))
          go_wp2_with fail
          refine Calls.mono (HS.out _) ?_
          rintro e w' ⟨rfl, hsl⟩
          dsimp only
          go_wp2
          go_end0
          obtain ⟨g1, c1, g2, c2, g3, a1, a2, a3, a4, a5⟩ := hsl
          exact ⟨rfl, .inr (.inr (.inr ⟨rfl, fun h => by have := h.2; omega, Nat.le_of_not_lt HN.out, g1, c1, g2, c2, g3, a1, a2, a3, a4, (below_drewN (Below.refl D w) _).trans a5⟩)), a4, (below_drewN (Below.refl D w) _).trans a5⟩
    · have hmb : decide (0 < most) = false := decide_eq_false hm
      have HM := show Hid _ from hm
      clear hm
      by_cases hn : n < 64512
      · have hsm := fun V (hV : V.heap = w.heap) => seal_small V D p n c (by rw [show V.cell? ⟨D, 575, none⟩ = w.cell? ⟨D, 575, none⟩ by simp [World.cell?, hV]]; exact k2) hn
        have HS := show Hid _ from hsm
        have HN := show Hid _ from hn
        clear hsm hn
        go_enter Ybaf.func6, Ybaf.ntmps6
        go_wp2_with fail
        go_quiet (fail)
        go_wp2_with fail
        refine Calls.mono (HS.out _ rfl) ?_
        rintro e w' ⟨rfl, rfl⟩
        dsimp only
        go_wp2
        go_end0
        exact ⟨rfl, .inr (.inr (.inl ⟨rfl, fun h => HM.out h.1, HN.out, rowIs_of HR.out⟩)), fun b hb hne => rfl, below_drewN (Below.refl D w) _⟩
      · have hsm := fun m => seal_full (w.drewN m) D F p n c base (rowIs_of HR.out) HE.out.1 HE.out.2.1 HE.out.2.2.1 HE.out.2.2.2 (Nat.le_of_not_lt hn)
        have HS := show Hid _ from hsm
        have HN := show Hid _ from hn
        clear hsm hn
        go_enter Ybaf.func6, Ybaf.ntmps6
        go_wp2_with fail
        go_quiet (fail)
        go_wp2_with fail
        refine Calls.mono (HS.out _) ?_
        rintro e w' ⟨rfl, hsl⟩
        dsimp only
        go_wp2
        go_end0
        obtain ⟨g1, c1, g2, c2, g3, a1, a2, a3, a4, a5⟩ := hsl
        exact ⟨rfl, .inr (.inr (.inr ⟨rfl, fun h => HM.out h.1, Nat.le_of_not_lt HN.out, g1, c1, g2, c2, g3, a1, a2, a3, a4, (below_drewN (Below.refl D w) _).trans a5⟩)), a4, (below_drewN (Below.refl D w) _).trans a5⟩
  · cases p with
    | none =>
      obtain ⟨rfl, rfl⟩ := hp rfl
      clear hp hc
      go_enter Ybaf.func6, Ybaf.ntmps6
      go_wp2
      go_end0
      exact ⟨rfl, .inl ⟨rfl, (rowIs_of HR.out).set 575 _⟩, fun b hb hne => Below.heap_setCell _ _ _ _ hne, (Below.refl D w).setCell (p := ⟨D, 575, none⟩) (Nat.le_refl _) _⟩
    | some a =>
      have hc' : (n : Int) ≤ (c : Int) := by omega
      go_enter Ybaf.func6, Ybaf.ntmps6
      go_wp2
      go_end0
      exact ⟨rfl, .inl ⟨rfl, (rowIs_of HR.out).set 575 _⟩, fun b hb hne => Below.heap_setCell _ _ _ _ hne, (Below.refl D w).setCell (p := ⟨D, 575, none⟩) (Nat.le_refl _) _⟩
end Go.Proofs.YbulkexnocFmt
