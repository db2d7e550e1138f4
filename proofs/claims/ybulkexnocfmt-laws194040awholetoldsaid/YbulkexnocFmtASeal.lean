import Derived.Test.YbulkexnocFmtASeal0
namespace Go.Proofs.YbulkexnocFmt
open Go.RowKit
set_option linter.unusedVariables false

theorem mk23 (w : World) : (Instr.makeSlice 23 (.int .i64 0) (.int .i64 65536)).run Ybaf.prog w = .ok (.slice (some ⟨w.heap.size, 0, none⟩) 0 65536) (w.alloc (.cells (madeCells #[.int .u8 0] 65536) 5)) := by
  obtain ⟨i0, hi, hz0, hz1, hz2⟩ := info_parts Ybaf.info5
  have hr := run_make (P := Ybaf.prog) w 23 5 i0 (.int .u8 0) Ybaf.underlying23 hi hz0 .i64 .i64 0 65536 (by decide) (by decide) (by rw [hz2]; decide) (by decide)
  rw [hz1] at hr
  exact hr

set_option maxRecDepth 100000 in
set_option maxHeartbeats 1000000 in
theorem seal_r3 (w : World) (D : Nat) (G : Nat → Value) (p : Option Addr) (n c : Nat) (base : Int) (h : w.rowIs D 80 579 G) (e2 : G 575 = .slice p n c) (e3 : G 576 = .int .i64 base) (R : World → Prop)
    (hR : ∀ g3 w', w'.rowIs D 80 579 (fun i => if i = 575 then .slice (some ⟨g3, 0, none⟩) 0 65536 else if i = 576 then .int .i64 (wrap64 (base + n)) else G i) → (∀ b, b < w.heap.size → b ≠ D → w'.heap[b]? = w.heap[b]?) → Below D w w' → R w')
    (u1 u2 u3 u4 u5 u6 u7 u8 u9 u10 u11 u12 u13 u14 u15 u16 u17 u18 u19 u20 u21 u22 u23 u24 u25 u26 u27 u28 u29 u30 u31 u32 u33 u34 u35 u36 u37 u38 u39 u40 u41 u42 u43 u44 u45 u46 u47 u48 u49 : Value) :
    Code.wp Ybaf.prog (chain 3 (Ybaf.f10.body.getD .skip)) (bodyPost Ybaf.prog Ybaf.f10 fun e w' => e = .returned (.tuple #[]) ∧ R w') ⟨#[.pointer (some ⟨D, 573, none⟩), u1, u2, u3, u4, u5, u6, u7, u8, u9, u10, u11, u12, u13, u14, u15, u16, u17, u18, u19, u20, u21, u22, u23, u24, u25, u26, u27, u28, u29, u30, u31, u32, u33, u34, u35, u36, u37, u38, u39, u40, u41, u42, u43, u44, u45, u46, u47, u48, u49], []⟩ w := by
  conv => arg 2; whnf
  have hlt := h.lt
  have k2 : w.cell? ⟨D, 575, none⟩ = some (.slice p n c) := by rw [h.cell (by omega), e2]
  have k3 : w.cell? ⟨D, 576, none⟩ = some (.int .i64 base) := by rw [h.cell (by omega), e3]
  have f3 : w.frozen? ⟨D, 576, none⟩ = false := h.frozen 576
  have f2 : w.frozen? ⟨D, 575, none⟩ = false := h.frozen 575
  have hmk := mk23
  have HR := show Hid _ from h
  have HQ := show Hid _ from hR
  clear h hR e2 e3
  go_wp2_with fail
  go_big_region
  go_wp2
  go_end0
  refine ⟨rfl, HQ.out w.heap.size _ (((rowIs_of HR.out).set 576 _).set 575 _ |>.alloc _) (fun b hb hne => ?_) ?_⟩
  · show (((w.setCell ⟨D, 576, none⟩ _).setCell ⟨D, 575, none⟩ _).alloc _).heap[b]? = _
    rw [Below.heap_alloc _ _ _ (by rw [World.size_setCell, World.size_setCell]; exact hb), Below.heap_setCell _ _ _ _ hne, Below.heap_setCell _ _ _ _ hne]
  · refine Below.drew ((((Below.refl D w).setCell (p := ⟨D, 576, none⟩) (Nat.le_refl _) _).setCell (p := ⟨D, 575, none⟩) (Nat.le_refl _) _).alloc ?_ _)
    rw [World.size_setCell, World.size_setCell]; omega

set_option maxRecDepth 100000 in
set_option maxHeartbeats 1000000 in
theorem seal_r2 (w : World) (D : Nat) (G : Nat → Value) (p : Option Addr) (n c : Nat) (base : Int) (h : w.rowIs D 80 579 G) (e1 : G 574 = .slice none 0 0) (e2 : G 575 = .slice p n c) (e3 : G 576 = .int .i64 base) (R : World → Prop)
    (hR : ∀ g2 c2 g3 w', w'.rowIs D 80 579 (fun i => if i = 575 then .slice (some ⟨g3, 0, none⟩) 0 65536 else if i = 576 then .int .i64 (wrap64 (base + n)) else if i = 574 then .slice (some ⟨g2, 0, none⟩) 1 c2 else G i) → w'.cell? ⟨g2, 0, none⟩ = some (.int .i64 base) →
      (∀ b, b < w.heap.size → b ≠ D → w'.heap[b]? = w.heap[b]?) → Below D w w' → R w')
    (u1 u2 u3 u4 u5 u6 u7 u8 u9 u10 u11 u12 u13 u14 u15 u16 u17 u18 u19 u20 u21 u22 u23 u24 u25 u26 u27 u28 u29 u30 u31 u32 u33 u34 u35 u36 u37 u38 u39 u40 u41 u42 u43 u44 u45 u46 u47 u48 u49 : Value) :
    Code.wp Ybaf.prog (chain 2 (Ybaf.f10.body.getD .skip)) (bodyPost Ybaf.prog Ybaf.f10 fun e w' => e = .returned (.tuple #[]) ∧ R w') ⟨#[.pointer (some ⟨D, 573, none⟩), u1, u2, u3, u4, u5, u6, u7, u8, u9, u10, u11, u12, u13, u14, u15, u16, u17, u18, u19, u20, u21, u22, u23, u24, u25, u26, u27, u28, u29, u30, u31, u32, u33, u34, u35, u36, u37, u38, u39, u40, u41, u42, u43, u44, u45, u46, u47, u48, u49], []⟩ w := by
  conv => arg 2; whnf
  have hlt := h.lt
  have k1 : w.cell? ⟨D, 574, none⟩ = some (.slice none 0 0) := by rw [h.cell (by omega), e1]
  have k3 : w.cell? ⟨D, 576, none⟩ = some (.int .i64 base) := by rw [h.cell (by omega), e3]
  have k1a : ∀ ob, (w.alloc ob).cell? ⟨D, 574, none⟩ = some (.slice none 0 0) := fun ob => (World.cell?_alloc_lt _ _ _ hlt).trans k1
  have k3a : ∀ ob, (w.alloc ob).cell? ⟨D, 576, none⟩ = some (.int .i64 base) := fun ob => (World.cell?_alloc_lt _ _ _ hlt).trans k3
  have hXA := heap_alloc_new w (.cells #[.int .i64 base] 3)
  have HXA := show Hid _ from hXA
  have HR := show Hid _ from h
  have HE := show Hid _ from And.intro e1 (And.intro e2 e3)
  have HQ := show Hid _ from hR
  clear hXA h e1 e2 e3 hR
  go_wp2_with fail
  rename_i Kx hKx
  have HK := show Hid _ from hKx
  clear hKx
  refine wp_region_noPanic ?_
  go_region_law ((refine step_first (by rfl) (.tmp 25) (.tmp 30) 33 3 (.int .i64 0) 8 w.heap.size (.int .i64 base) (by rfl) Ybaf.underlying33 Ybaf.info3 rfl (by omega) (by simp [Act.eval]) (by simp [Act.eval]) HXA.out rfl ?_; intro g1 c1 w1 hg1 hc1 hb1; obtain ⟨f1, f2, r1, hb1'⟩ := keeps (.cells #[.int .i64 base] 3) 574 (rowIs_of HR.out) HE.out.1 hb1.os hb1.tape hb1.output hb1.size hb1.block (by omega); clear hb1))
  all_goals
    refine NoPanic.normal ?_
    simp only [Exit.then]
    refine HK.out _ _ ?_
    have hs1 := hb1'.size
    simp at hg1
    apply seal_r3 _ D _ p n c base (r1.set 574 _) (by simpa using HE.out.2.1) (by simpa using HE.out.2.2)
    intro g3 w' a1 a2 a3
    refine HQ.out g1 c1 g3 w' a1 ?_ (fun b hb hne => ?_) ?_
    · exact cell_keep hc1 (by omega) a2
    · rw [a2 b (by rw [World.size_setCell]; omega) hne, Below.heap_setCell _ _ _ _ hne, hb1'.block b hb]
    · exact ((hb1'.mono (show D ≤ w.heap.size by omega)).setCell (p := ⟨D, 574, none⟩) (Nat.le_refl _) _).trans a3

set_option maxRecDepth 100000 in
set_option maxHeartbeats 1000000 in
theorem seal_full (w : World) (D : Nat) (F : Nat → Value) (p : Option Addr) (n c : Nat) (base : Int) (h : w.rowIs D 80 579 F) (e0 : F 573 = .slice none 0 0) (e1 : F 574 = .slice none 0 0) (e2 : F 575 = .slice p n c)
    (e3 : F 576 = .int .i64 base) (hn : 64512 ≤ n) :
    Calls Ybaf.prog 10 #[.pointer (some ⟨D, 573, none⟩)] w fun e w' => e = .returned (.tuple #[]) ∧ Sealed w D F p n c base w' := by
  have hlt := h.lt
  have k0 : w.cell? ⟨D, 573, none⟩ = some (.slice none 0 0) := by rw [h.cell (by omega), e0]
  have k2 : w.cell? ⟨D, 575, none⟩ = some (.slice p n c) := by rw [h.cell (by omega), e2]
  have hn' : decide ((n : Int) < 64512) = false := decide_eq_false (by omega)
  have k0a : ∀ ob, (w.alloc ob).cell? ⟨D, 573, none⟩ = some (.slice none 0 0) := fun ob => (World.cell?_alloc_lt _ _ _ hlt).trans k0
  have k2a : ∀ ob, (w.alloc ob).cell? ⟨D, 575, none⟩ = some (.slice p n c) := fun ob => (World.cell?_alloc_lt _ _ _ hlt).trans k2
  have hXA := heap_alloc_new w (.cells #[.slice p n c] 23)
  have HXA := show Hid _ from hXA
  have HR := show Hid _ from h
  have HE := show Hid _ from And.intro e0 (And.intro e1 (And.intro e2 e3))
  clear hXA h e0 e1 e2 e3 hn
  go_enter Ybaf.func10, Ybaf.ntmps10
  go_wp2_with fail
  rename_i Kx hKx
  have HK := show Hid _ from hKx
  clear hKx
  refine wp_region_noPanic ?_
  go_region_law ((refine step_first (by rfl) (.tmp 12) (.tmp 17) 74 23 (.slice none 0 0) 24 w.heap.size (.slice p n c) (by rfl) Ybaf.underlying74 Ybaf.info23 rfl (by omega) (by simp [Act.eval]) (by simp [Act.eval]) HXA.out rfl ?_; intro g1 c1 w1 hg1 hc1 hb1; obtain ⟨f1, f2, r1, hb1'⟩ := keeps (.cells #[.slice p n c] 23) 573 (rowIs_of HR.out) HE.out.1 hb1.os hb1.tape hb1.output hb1.size hb1.block (by omega); clear hb1))
  all_goals
    refine NoPanic.normal ?_
    simp only [Exit.then]
    refine HK.out _ _ ?_
    have hs1 := hb1'.size
    simp at hg1
    apply seal_r2 _ D _ p n c base (r1.set 573 _) (by simpa using HE.out.2.1) (by simpa using HE.out.2.2.1) (by simpa using HE.out.2.2.2)
    intro g2 c2 g3 w' a1 a2 a3 a4
    refine ⟨g1, c1, g2, c2, g3, a1, cell_keep hc1 (by omega) a3, a2, fun b hb hne => ?_, ?_⟩
    · rw [a3 b (by rw [World.size_setCell]; omega) hne, Below.heap_setCell _ _ _ _ hne, hb1'.block b hb]
    · exact ((hb1'.mono (show D ≤ w.heap.size by omega)).setCell (p := ⟨D, 573, none⟩) (Nat.le_refl _) _).trans a4
end Go.Proofs.YbulkexnocFmt
