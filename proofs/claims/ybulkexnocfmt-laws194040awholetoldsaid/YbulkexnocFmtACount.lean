import Derived.Test.YbulkexnocFmtAWrote
namespace Go.Proofs.YbulkexnocFmt
open Go.RowKit Go.Stop
set_option linter.unusedVariables false

/-- The decoder behind 'counted'. -/
def Done (D : Nat) (F : Nat → Value) (p : Option Addr) (n c : Nat) (base most : Int) (chk : Bool) (em : Int) (w' : World) : Prop :=
  ∃ G, w'.rowIs D 80 579 G ∧ (∀ i, i < 573 → i ≠ 6 → G i = F i) ∧ G 6 = .int .i64 em ∧ G 577 = .int .i64 most ∧
  ((chk = true ∧ G 578 = .bool true ∧ G 573 = .slice none 0 0 ∧ G 574 = .slice none 0 0 ∧ (∃ q c', G 575 = .slice q 0 c') ∧ G 576 = .int .i64 base) ∨
   (chk = false ∧ (0 < most ∧ most < wrap64 (base + n)) ∧ G 578 = .bool true ∧ G 573 = .slice none 0 0 ∧ G 574 = .slice none 0 0 ∧ G 575 = .slice none 0 0 ∧ G 576 = .int .i64 0) ∨
   (chk = false ∧ ¬ (0 < most ∧ most < wrap64 (base + n)) ∧ n < 64512 ∧ G 578 = .bool false ∧ G 573 = .slice none 0 0 ∧ G 574 = .slice none 0 0 ∧ G 575 = .slice p n c ∧ G 576 = .int .i64 base) ∨
   (chk = false ∧ ¬ (0 < most ∧ most < wrap64 (base + n)) ∧ 64512 ≤ n ∧ G 578 = .bool false ∧ ∃ g1 c1 g2 c2 g3, G 573 = .slice (some ⟨g1, 0, none⟩) 1 c1 ∧ w'.cell? ⟨g1, 0, none⟩ = some (.slice p n c) ∧
      G 574 = .slice (some ⟨g2, 0, none⟩) 1 c2 ∧ w'.cell? ⟨g2, 0, none⟩ = some (.int .i64 base) ∧ G 576 = .int .i64 (wrap64 (base + n)) ∧ G 575 = .slice (some ⟨g3, 0, none⟩) 0 65536))

variable {w w' w'' : World} {D : Nat} {F : Nat → Value} {p : Option Addr} {n c : Nat} {base most em : Int} {chk : Bool}

theorem Wrote.done (h : Wrote w D F p n c base most chk w') (e0 : F 573 = .slice none 0 0) (e1 : F 574 = .slice none 0 0) (e2 : F 575 = .slice p n c)
    (e3 : F 576 = .int .i64 base) (e4 : F 577 = .int .i64 most) (e5 : F 578 = .bool chk) (e6 : F 6 = .int .i64 em) : Done D F p n c base most chk em w' := by
  rcases h with ⟨rfl, h⟩ | ⟨rfl, hp, h⟩ | ⟨rfl, hp, hn, h⟩ | ⟨rfl, hp, hn, g1, c1, g2, c2, g3, h, a2, a3, a4, a5⟩
  · refine ⟨_, h, fun i hi _ => by simp only [show ¬ i = 575 by omega, if_false], ?_, ?_, .inl ⟨rfl, ?_, ?_, ?_, ⟨p, c, ?_⟩, ?_⟩⟩ <;> simp [e0, e1, e3, e4, e5, e6]
  · refine ⟨_, h, fun i hi _ => by simp only [show ¬ i = 573 by omega, show ¬ i = 574 by omega, show ¬ i = 575 by omega, show ¬ i = 576 by omega, show ¬ i = 578 by omega, if_false], ?_, ?_, .inr (.inl ⟨rfl, hp, ?_, ?_, ?_, ?_, ?_⟩)⟩ <;> simp [e4, e6]
  · exact ⟨_, h, fun i hi _ => rfl, e6, e4, .inr (.inr (.inl ⟨rfl, hp, hn, e5, e0, e1, e2, e3⟩))⟩
  · refine ⟨_, h, fun i hi _ => by simp only [show ¬ i = 573 by omega, show ¬ i = 574 by omega, show ¬ i = 575 by omega, show ¬ i = 576 by omega, if_false], ?_, ?_, .inr (.inr (.inr ⟨rfl, hp, hn, ?_, g1, c1, g2, c2, g3, ?_, a2, ?_, a3, ?_, ?_⟩))⟩ <;> simp [e4, e5, e6]

theorem Done.later (h : Done D F p n c base most chk em w') (hb : Below w'.heap.size w' w'') : Done D F p n c base most chk em w'' := by
  obtain ⟨G, h1, h2, h3, h4, h5⟩ := h
  refine ⟨G, h1.of_block (hb.block _ h1.lt), h2, h3, h4, ?_⟩
  rcases h5 with h | h | h | ⟨a1, a2, a3, a4, g1, c1, g2, c2, g3, a5, a6, a7, a8, a9⟩
  · exact .inl h
  · exact .inr (.inl h)
  · exact .inr (.inr (.inl h))
  · exact .inr (.inr (.inr ⟨a1, a2, a3, a4, g1, c1, g2, c2, g3, a5, cell_later hb a6, a7, cell_later hb a8, a9⟩))

theorem Done.count (h : Done D F p n c base most chk em w') (x : Int) : Done D F p n c base most chk x (w'.setCell ⟨D, 6, none⟩ (.int .i64 x)) := by
  obtain ⟨G, h1, h2, h3, h4, h5⟩ := h
  have hne : ∀ g v, w'.cell? ⟨g, 0, none⟩ = some v → (w'.setCell ⟨D, 6, none⟩ (.int .i64 x)).cell? ⟨g, 0, none⟩ = some v := fun g v hv => by
    by_cases hg : g = D
    · subst hg
      have hh := h1.cell (i := 0) (by omega)
      rw [hh] at hv
      have := (h1.set 6 (.int .i64 x)).cell (i := 0) (by omega)
      rw [this]
      simpa using hv
    · rw [World.cell?_of_block (w := w') (Below.heap_setCell _ _ _ _ hg)]; exact hv
  refine ⟨_, h1.set 6 _, fun i hi h6 => by simp only [h6, if_false]; exact h2 i hi h6, by simp, by simpa using h4, ?_⟩
  simp only [show ¬ (578 = 6) by omega, show ¬ (573 = 6) by omega, show ¬ (574 = 6) by omega, show ¬ (575 = 6) by omega, show ¬ (576 = 6) by omega, if_false]
  rcases h5 with h | h | h | ⟨a1, a2, a3, a4, g1, c1, g2, c2, g3, a5, a6, a7, a8, a9⟩
  · exact .inl h
  · exact .inr (.inl h)
  · exact .inr (.inr (.inl h))
  · exact .inr (.inr (.inr ⟨a1, a2, a3, a4, g1, c1, g2, c2, g3, a5, hne _ _ a6, a7, hne _ _ a8, a9⟩))

def Counted (D : Nat) (F : Nat → Value) (p : Option Addr) (n c : Nat) (base most : Int) (chk : Bool) (em so off su used : Int) (e : Ending) (w' : World) : Prop :=
  ((¬ (so = off ∧ su = used) ∧ e = .returned .nilIface ∧ Done D F p n c base most chk em w') ∨
       ((so = off ∧ su = used) ∧ em ≠ 65536 ∧ e = .returned .nilIface ∧ Done D F p n c base most chk (wrap64 (em + 1)) w') ∨
       ((so = off ∧ su = used) ∧ em = 65536 ∧ ∃ g, e = .returned (.iface 84 (.pointer (some ⟨g, 0, none⟩))) ∧ w'.cell? ⟨g, 0, none⟩ = some (.int .i64 so) ∧ Done D F p n c base most chk em w'))

theorem new_cell0 (w : World) (x y : Value) (t : TypeId) : (w.alloc (.cells #[x, y] t)).cell? ⟨w.heap.size, 0, none⟩ = some x := by
  have := heap_alloc_new w (.cells #[x, y] t)
  unfold World.cell?
  simp only [this]
  rfl
theorem neq_msg : msgA.toList.isEmpty = false := by decide +kernel

set_option maxRecDepth 100000 in
set_option maxHeartbeats 1000000 in
theorem counted_any (Fi : Interp) (hF : Fi.told.answers w.tape) (h : w.rowIs D 80 579 F) (e0 : F 573 = .slice none 0 0) (e1 : F 574 = .slice none 0 0) (e2 : F 575 = .slice p n c)
    (e3 : F 576 = .int .i64 base) (e4 : F 577 = .int .i64 most) (e5 : F 578 = .bool chk) (e6 : F 6 = .int .i64 em) (so off su used : Int) (e7 : F 1 = .int .i64 so) (e8 : F 2 = .int .u64 su) (hp : p = none → n = 0 ∧ c = 0) (hc : n ≤ c) :
    Calls Ybaf.prog 4 #[.pointer (some ⟨D, 0, none⟩), .int .i64 off, .int .u64 used] w fun e w' => Below D w w' ∧ (∀ b, b < w.heap.size → b ≠ D → w'.heap[b]? = w.heap[b]?) ∧
      Counted D F p n c base most chk em so off su used e w' := by
  have hw := wrote_any w D F p n c base most chk h e0 e1 e2 e3 e4 e5 hp hc
  have HW := show Hid _ from hw
  have HD := show Hid _ from fun w' (hx : Wrote w D F p n c base most chk w') => hx.done e0 e1 e2 e3 e4 e5 e6
  have HE := show Hid _ from And.intro e6 (And.intro e7 e8)
  have HF := show Hid _ from hF
  have hlt := h.lt
  clear hw h e0 e1 e2 e3 e4 e5 e6 e7 e8 hp hc hF
  go_enter Ybaf.func4, Ybaf.ntmps4
  go_wp2_with fail
  refine Calls.mono HW.out ?_
  rintro e w1 ⟨rfl, hwr, hoth, hbel⟩
  dsimp only
  have hd := HD.out w1 hwr
  have hd' := hd
  obtain ⟨G, g1, g2, g3, g4, g5⟩ := hd'
  have q1 : w1.cell? ⟨D, 1, none⟩ = some (.int .i64 so) := by rw [g1.cell (by omega), g2 1 (by omega) (by omega), HE.out.2.1]
  have q2 : w1.cell? ⟨D, 2, none⟩ = some (.int .u64 su) := by rw [g1.cell (by omega), g2 2 (by omega) (by omega), HE.out.2.2]
  have q6 : w1.cell? ⟨D, 6, none⟩ = some (.int .i64 em) := by rw [g1.cell (by omega), g3]
  have f6 : w1.frozen? ⟨D, 6, none⟩ = false := g1.frozen 6
  have HO := show Hid _ from hoth
  have HDN := show Hid _ from hd
  have HWR := show Hid _ from hwr
  have hlt1 := g1.lt
  clear g1 g2 g3 g4 g5 hoth hd hwr
  by_cases m1 : so = off
  · by_cases m2 : su = used
    · subst m1 m2
      by_cases hem : em = 65536
      · subst hem
        have hcf := count_full Fi w1 D (by rw [hbel.tape]; exact HF.out) q6
        have HCF := show Hid _ from hcf
        clear hcf
        go_wp2_with fail
        refine Calls.mono HCF.out ?_
        rintro e w2 ⟨rfl, hb2⟩
        dsimp only
        have r1 : w2.cell? ⟨D, 1, none⟩ = some (.int .i64 so) := cell_later hb2 q1
        have hmm := neq_msg
        generalize msgA = ms at *
        go_wp2_with fail
        refine Calls.mono (fail_any w2 _ so ms) ?_
        rintro e w3 ⟨rfl, rfl⟩
        dsimp only
        go_wp2
        go_ret
        have hs1 := hbel.size
        have hs2 := hb2.size
        have hB : Below w1.heap.size w1 (w2.alloc (.cells #[.int .i64 so, .string ms] 87)) := hb2.alloc (by omega) _
        refine ⟨hbel.trans (hB.mono (by omega)), fun b hb hne => ?_, ?_⟩
        · rw [hB.block b (by omega)]; exact HO.out b hb hne
        · exact .inr (.inr ⟨⟨rfl, rfl⟩, rfl, w2.heap.size, rfl, new_cell0 _ _ _ _, Done.later HDN.out hB⟩)
      · have hcl := count_less w1 D em q6 f6 hem
        have HCL := show Hid _ from hcl
        have HEM := show Hid _ from hem
        clear hcl hem
        go_wp2_with fail
        refine Calls.mono HCL.out ?_
        rintro e w2 ⟨rfl, rfl⟩
        dsimp only
        go_wp2
        go_ret
        have hs1 := hbel.size
        refine ⟨hbel.setCell (p := ⟨D, 6, none⟩) (Nat.le_refl _) _, fun b hb hne => ?_, ?_⟩
        · rw [Below.heap_setCell _ _ _ _ hne]; exact HO.out b hb hne
        · have hx := Done.count HDN.out (wrap64 (em + 1))
          exact .inr (.inl ⟨⟨rfl, rfl⟩, HEM.out, rfl, hx⟩)
    · have hmb : (su == used) = false := by simpa using m2
      have HM := show Hid _ from m2
      clear m2
      subst m1
      go_wp2
      go_ret
      exact ⟨hbel, HO.out, .inl ⟨fun h => HM.out h.2, rfl, HDN.out⟩⟩
  · have hmb : (so == off) = false := by simpa using m1
    have HM := show Hid _ from m1
    clear m1
    go_wp2
    go_ret
    exact ⟨hbel, HO.out, .inl ⟨fun h => HM.out h.1, rfl, HDN.out⟩⟩
end Go.Proofs.YbulkexnocFmt
