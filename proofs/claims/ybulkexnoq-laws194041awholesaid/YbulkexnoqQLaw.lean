import Derived.Test.YbulkexnoqQ10
namespace Go.Proofs.Ybulkexnoq
open Go.RowKit
set_option linter.unusedVariables false
set_option linter.unusedSimpArgs false

def See2 (w : World) (p : Option Addr) (n : Nat) (y : Nat → Int × Int) : Prop :=
  n = 0 ∨ ∃ b o, p = some ⟨b, o, none⟩ ∧ ∀ i, i < n → w.cell? ⟨b, o + i * 2, none⟩ = some (.int .i64 (y i).1) ∧ w.cell? ⟨b, o + i * 2 + 1, none⟩ = some (.int .u64 (y i).2)

/-- The modelled amounts' four cells. -/
def Four (M : Nat) (w : World) : Prop := ∃ F : Nat → Value, w.rowIs M 28 4 F ∧ (∃ z, F 0 = .int .i64 z) ∧ (∃ z, F 1 = .int .u64 z) ∧ (∃ z, F 2 = .int .i64 z) ∧ (∃ z, F 3 = .int .u64 z)
theorem Four.cells {M : Nat} {w : World} (h : Four M w) : ∃ a b c d, w.heap[M]? = some (.cells #[.int .i64 a, .int .u64 b, .int .i64 c, .int .u64 d] 28 (0, 0)) := by
  obtain ⟨F, ⟨cs, h1, h2, h3⟩, ⟨a, ea⟩, ⟨b, eb⟩, ⟨c, ec⟩, ⟨d, ed⟩⟩ := h
  refine ⟨a, b, c, d, ?_⟩
  rw [h1]
  obtain ⟨l⟩ := cs
  match l, h2 with
  | [z0, z1, z2, z3], _ =>
    have e0 := h3 0 (by omega)
    have e1 := h3 1 (by omega)
    have e2 := h3 2 (by omega)
    have e3 := h3 3 (by omega)
    simp [ea, eb, ec, ed] at e0 e1 e2 e3
    subst e0 e1 e2 e3
    rfl
theorem Four.start (w : World) : Four w.heap.size (w.alloc (.cells #[.int .i64 0, .int .u64 0, .int .i64 0, .int .u64 0] 28)) :=
  ⟨fun i => (#[.int .i64 0, .int .u64 0, .int .i64 0, .int .u64 0] : Array Value).getD i undef, ⟨_, heap_alloc_new w _, rfl, fun i hi => by
    have : i = 0 ∨ i = 1 ∨ i = 2 ∨ i = 3 := by omega
    rcases this with rfl | rfl | rfl | rfl <;> rfl⟩, ⟨0, rfl⟩, ⟨0, rfl⟩, ⟨0, rfl⟩, ⟨0, rfl⟩⟩
theorem Four.step {M : Nat} {w : World} (h : Four M w) (k : Nat) (hk : k < 2) (a b : Int) : Four M ((w.setCell ⟨M, k * 2, none⟩ (.int .i64 a)).setCell ⟨M, k * 2 + 1, none⟩ (.int .u64 b)) := by
  obtain ⟨F, hr, h0, h1, h2, h3⟩ := h
  refine ⟨_, (hr.set (k * 2) _).set (k * 2 + 1) _, ?_⟩
  have : k = 0 ∨ k = 1 := by omega
  rcases this with rfl | rfl
  · exact ⟨⟨a, rfl⟩, ⟨b, rfl⟩, by simpa using h2, by simpa using h3⟩
  · exact ⟨by simpa using h0, by simpa using h1, ⟨a, rfl⟩, ⟨b, rfl⟩⟩

set_option maxRecDepth 100000 in
set_option maxHeartbeats 1000000 in
theorem law_any (w : World) (p0 p1 : Option Addr) (n0 c0 n1 c1 : Nat) (y : Nat → Int × Int) (x : Nat → Ent) (hy : See2 w p0 n0 y) (hx : See3 w p1 n1 x) (hl : ∀ i, 0 ≤ (x i).2.2) :
    Calls Yba.prog 3 #[.slice p0 n0 c0, .slice p1 n1 c1] w fun e w' => e = .returned (.bool true) ∧ Below w.heap.size w w' := by
  have HY := show Hid _ from hy
  have HX := show Hid _ from And.intro hx hl
  clear hy hx hl
  by_cases h0 : n0 ≤ 1048576
  · have g0 : decide ((1048576 : Int) < (n0 : Int)) = false := decide_eq_false (by omega)
    by_cases h1 : n1 ≤ 1048576
    · have g1 : decide ((1048576 : Int) < (n1 : Int)) = false := decide_eq_false (by omega)
      have HN := show Hid _ from And.intro h0 h1
      clear h0 h1
      go_enter Yba.func3, Yba.ntmps3
      go_wp2_with fail
      go_loopg [28] 2 (fun gh s28 wr => ∃ k : Nat, k ≤ 2 ∧ 2 - k ≤ gh ∧ s28 = .int .i64 k ∧ Below w.heap.size w wr ∧ Hid (Four w.heap.size wr))
      case atStart => exact ⟨0, by omega, by omega, rfl, (Below.refl _ _).alloc (Nat.le_refl _) _, show Hid _ from Four.start w⟩
      case round =>
        rename_i Kx hKx J1 J2 J3 J4
        have HK := show Hid _ from hKx
        clear hKx
        obtain ⟨k, hk, hg, rfl, hbel, HF⟩ := hrel
        by_cases hlt : k < 2
        · have e2 : decide ((k : Int) < 2) = true := decide_eq_true (by omega)
          by_cases hkn : k < n0
          · have e3 : decide ((k : Int) < (n0 : Int)) = true := decide_eq_true (by omega)
            rcases HY.out with h1 | ⟨b0, o0, rfl, h1⟩
            · omega
            have y0 := cell_later hbel (h1 k hkn).1
            have y1 := cell_later hbel (h1 k hkn).2
            have hb0 : b0 ≠ w.heap.size := Nat.ne_of_lt (World.block_lt_of_cell? w _ (h1 k hkn).1)
            obtain ⟨F, hr, _⟩ := HF.out
            have s0 := hr.cell (show k * 2 < 4 by omega)
            have s1 := hr.cell (show k * 2 + 1 < 4 by omega)
            have f0 := hr.frozen (k * 2)
            have f1 := hr.frozen (k * 2 + 1)
            clear h1 hr
            go_wp2_with fail
            go_big_region
            go_wp2_with fail
            go_roundg (2 - (k + 1))
            case measure => omega
            case rel => exact ⟨k + 1, by omega, by omega, by go_num, ((hbel.setCell (p := ⟨w.heap.size, k * 2, none⟩) (Nat.le_refl _) _).setCell (p := ⟨w.heap.size, k * 2 + 1, none⟩) (Nat.le_refl _) _).drew, show Hid _ from Four.step HF.out k hlt _ _⟩
          · have e3 : decide ((k : Int) < (n0 : Int)) = false := decide_eq_false (by omega)
            go_wp2_with fail
            go_roundg (2 - (k + 1))
            case measure => omega
            case rel => exact ⟨k + 1, by omega, by omega, by go_num, hbel, HF⟩
        · obtain rfl : k = 2 := by omega
          go_wp2_with fail
          refine HK.out _ _ ?_
          obtain ⟨a, b, c, d, hM⟩ := Four.cells HF.out
          apply t10 w wr w.heap.size n1 c1 p1 x a b c d HN.out.2 hM (See3.later HX.out.1 hbel) HX.out.2 hbel
    · have g1 : decide ((1048576 : Int) < (n1 : Int)) = true := decide_eq_true (by omega)
      clear h0 h1
      go_enter Yba.func3, Yba.ntmps3
      go_wp2_with fail
      go_ret
      exact ⟨rfl, Below.refl _ _⟩
  · have g0 : decide ((1048576 : Int) < (n0 : Int)) = true := decide_eq_true (by omega)
    clear h0
    go_enter Yba.func3, Yba.ntmps3
    go_wp2_with fail
    go_ret
    exact ⟨rfl, Below.refl _ _⟩
end Go.Proofs.Ybulkexnoq
