import Derived.Test.YbulkexnocFmtA9
namespace Go.Proofs.YbulkexnocFmt
open Go.RowKit Go.Stop
set_option linter.unusedVariables false

theorem came_new (w : World) (so su em0 : Int) (al : Bool) (dep : Int) (chk : Bool) (most : Int) (p : Option Addr) (n c : Nat) (base : Int) :
    Came w.heap.size so su dep chk most p n c base (w.alloc (.cells #[.int .i64 so, .int .u64 su, .int .i64 em0, .bool al, .int .i64 dep, .bool chk, .int .i64 most, .slice p n c, .int .i64 base] 25)) := by
  have h := heap_alloc_new w (.cells #[.int .i64 so, .int .u64 su, .int .i64 em0, .bool al, .int .i64 dep, .bool chk, .int .i64 most, .slice p n c, .int .i64 base] 25)
  unfold Came World.cell?
  simp only [h]
  exact ⟨rfl, rfl, rfl, rfl, rfl, rfl, rfl⟩

theorem sees_lt {w : World} {p : Option Addr} {n : Nat} {f : Nat → Int} (h : Sees w p n f) {b o : Nat} (e : p = some ⟨b, o, none⟩) (h0 : 0 < n) : b < w.heap.size := by
  rcases h with h | ⟨b', o', e', h⟩
  · omega
  · rw [e'] at e
    cases e
    exact lt_of_cell (h 0 h0)

set_option maxRecDepth 100000 in
set_option maxHeartbeats 2000000 in
theorem law_any (Fi : Interp) (w : World) (hFi : Fi.told.answers w.tape) (f : Nat → Int) (p : Option Addr) (n c : Nat) (so su em0 dep most base off used : Int) (al chk same : Bool) (hs : Sees w p n f) :
    Calls Ybaf.prog 3 #[.agg #[.int .i64 so, .int .u64 su, .int .i64 em0, .bool al, .int .i64 dep, .bool chk, .int .i64 most, .slice p n c, .int .i64 base], .int .i64 off, .int .u64 used, .bool same] w
      fun e w' => e = .returned (.bool true) ∧ Below w.heap.size w w' := by
  have HF := show Hid _ from hFi
  have HS := show Hid _ from hs
  have hal := (Below.refl w.heap.size w).alloc (Nat.le_refl _) (.cells #[.int .i64 so, .int .u64 su, .int .i64 em0, .bool al, .int .i64 dep, .bool chk, .int .i64 most, .slice p n c, .int .i64 base] 25)
  have HAL := show Hid _ from hal
  clear hFi hs hal
  by_cases hn : n ≤ 1048576
  · have hg : decide ((1048576 : Int) < (n : Int)) = false := decide_eq_false (by omega)
    have HN := show Hid _ from hn
    clear hn
    cases al <;> cases same
    all_goals
      go_enter Ybaf.func3, Ybaf.ntmps3
      go_upto_region 6 with (fail)
      rename_i K3 hK3 K4 hK4
      have HK3 := show Hid _ from hK3
      clear hK3
      go_wp2_with fail
      refine HK3.out _ _ ?_
      apply a9 Fi w (w.alloc (.cells #[.int .i64 so, .int .u64 su, .int .i64 em0, .bool _, .int .i64 dep, .bool chk, .int .i64 most, .slice p n c, .int .i64 base] 25)) HF.out w.heap.size f p n c so su dep most base _ _ _ chk (came_new w so su em0 _ dep chk most p n c base)
        (Sees.later HS.out HAL.out) HN.out (fun b o e h0 => Nat.lt_of_lt_of_le (sees_lt HS.out e h0) HAL.out.size) HAL.out
  · have hg : decide ((1048576 : Int) < (n : Int)) = true := decide_eq_true (by omega)
    clear hn
    go_enter Ybaf.func3, Ybaf.ntmps3
    go_wp2_with fail
    go_ret
    exact ⟨rfl, HAL.out⟩
end Go.Proofs.YbulkexnocFmt
