import Derived.Test.YbulkexnoqRStab
import Derived.Test.YbulkexnoqQSame
import Derived.Laws.ResultCell
namespace Go.Proofs.Ybulkexnoq
open Go.RowKit
set_option linter.unusedVariables false
set_option linter.unusedSimpArgs false

theorem sort_any (g m n c : Nat) (x : Nat → Ent) (w : World) (hn : n ≤ 1048576) (hr : Row w g m n x) :
    Calls Yba.prog 10 #[.slice (some ⟨g, 0, none⟩) n c, fn11] w fun e w' => e = .returned (.tuple #[]) ∧ Only g w w' ∧ ∃ y, Row w' g m n y ∧ Srt y 0 n := by
  have HC := show Hid _ from stable_any g m n c x w hn hr
  unfold fn11 at *
  clear hr hn
  go_enter Yba.func10, Yba.ntmps10
  go_wp2_with fail
  refine Calls.mono HC.out ?_
  rintro e w' ⟨rfl, h1, h2⟩
  dsimp only
  go_wp2_with fail
  go_end0
  exact ⟨rfl, h1, h2⟩

theorem cmp37 (x : Ent) (q : ByteArray) (w : World) : Calls Yba.prog 37 #[agg x, .string q] w fun e w' => e = .returned (.int .i64 (cmp x.1 q)) ∧ Below w.heap.size w w' := by
  obtain ⟨s, h, l⟩ := x
  have HC := show Hid _ from fun V => compare_any s q V
  have hb := (Below.refl w.heap.size w).alloc (Nat.le_refl _) (.cells #[.string s, .int .i64 h, .int .u64 l] 36)
  have HB := show Hid _ from hb
  clear hb
  unfold agg
  go_enter Yba.func37, Yba.ntmps37
  go_wp2_with fail
  refine Calls.mono (HC.out _) ?_
  rintro e w' ⟨rfl, rfl⟩
  dsimp only
  go_wp2_with fail
  go_ret
  exact ⟨rfl, HB.out⟩

def fn37 : Value := .func (.func 37) #[] #[]
/-- What the binary search answers. -/
def Hit (x : Nat → Ent) (n : Nat) (q : ByteArray) (i : Nat) (fd : Bool) : Prop :=
  i ≤ n ∧ (i = 0 ∨ cmp (x (i - 1)).1 q < 0) ∧ (i = n ∨ 0 ≤ cmp (x i).1 q) ∧ (fd = true ↔ i < n ∧ cmp (x i).1 q = 0)

set_option maxRecDepth 100000 in
set_option maxHeartbeats 1000000 in
theorem search_any (p : Option Addr) (n c : Nat) (x : Nat → Ent) (q : ByteArray) (w : World) (hn : n ≤ 1048576) (hx : See3 w p n x) :
    Calls Yba.prog 36 #[.slice p n c, .string q, fn37] w fun e w' => Below w.heap.size w w' ∧ ∃ i fd, e = .returned (.tuple #[.int .i64 (i : Nat), .bool fd]) ∧ Hit x n q i fd := by
  have HX := show Hid _ from hx
  have HN := show Hid _ from hn
  have HC := show Hid _ from fun k V => cmp37 (x k) q V
  unfold fn37
  clear hx hn
  go_enter Yba.func36, Yba.ntmps36
  go_wp2_with fail
  go_loopg [9, 10] n (fun gh s9 s10 wr => ∃ i j : Nat, j - i ≤ gh ∧ s9 = .int .i64 i ∧ s10 = .int .i64 j ∧ Hid (i ≤ j ∧ j ≤ n ∧ (i = 0 ∨ cmp (x (i - 1)).1 q < 0) ∧ (j = n ∨ 0 ≤ cmp (x j).1 q)) ∧ Below w.heap.size w wr)
  case atStart => exact ⟨0, n, by omega, rfl, rfl, show Hid _ from ⟨by omega, Nat.le_refl _, .inl rfl, .inl rfl⟩, Below.refl _ _⟩
  case round =>
    rename_i Kx hKx J1 J2 J3 J4
    have HK := show Hid _ from hKx
    clear hKx
    obtain ⟨i, j, hg, rfl, rfl, HB, hbel⟩ := hrel
    have hn := HN.out
    have hB := HB.out
    by_cases hlt : i < j
    · obtain ⟨h, eh, eh1, hih, hhj, hh⟩ := mid64 hlt hB.2.1 hn
      have HE := show Hid _ from And.intro eh eh1
      clear eh eh1
      rcases HX.out with h1 | ⟨b1, o1, rfl, h1⟩
      · omega
      have a0 := cell_later hbel (h1 h hh).1
      have a1 := cell_later hbel (h1 h hh).2.1
      have a2 := cell_later hbel (h1 h hh).2.2
      have HH := show Hid _ from And.intro hg (And.intro hih hhj)
      clear h1 hn hB hg hih hhj
      have eh := HE.out.1
      by_cases hl : cmp (x h).1 q < 0
      · have hl' : decide (cmp (x h).1 q < 0) = true := decide_eq_true hl
        have HL := show Hid _ from hl
        clear hl
        go_wp2_with fail
        refine Calls.mono (HC.out h _) ?_
        rintro e w1 ⟨rfl, hb1⟩
        have hb2 := hbel.trans (hb1.mono hbel.size)
        clear hb1
        dsimp only
        have eh1 := HE.out.2
        go_wp2_with fail
        clear eh eh1
        go_roundg (j - (h + 1))
        case measure => have := HH.out; omega
        case rel =>
          have hB := HB.out
          have hH := HH.out
          exact ⟨h + 1, j, Nat.le_refl _, by first | rfl | (rw [HE.out.2]) | (rw [HE.out.1, HE.out.2]), rfl, show Hid _ from ⟨by omega, by omega, .inr HL.out, hB.2.2.2⟩, hb2⟩
      · have hl' : decide (cmp (x h).1 q < 0) = false := decide_eq_false hl
        have HL := show Hid (0 ≤ cmp (x h).1 q) from Int.not_lt.1 hl
        clear hl
        go_wp2_with fail
        refine Calls.mono (HC.out h _) ?_
        rintro e w1 ⟨rfl, hb1⟩
        have hb2 := hbel.trans (hb1.mono hbel.size)
        clear hb1
        dsimp only
        go_wp2_with fail
        clear eh
        go_roundg (h - i)
        case measure => have := HH.out; omega
        case rel =>
          have hB := HB.out
          have hH := HH.out
          exact ⟨i, h, Nat.le_refl _, rfl, by first | rfl | (rw [HE.out.1]), show Hid _ from ⟨by omega, by omega, hB.2.2.1, .inr HL.out⟩, hb2⟩
    · obtain rfl : i = j := by omega
      by_cases hin : i < n
      · rcases HX.out with h1 | ⟨b1, o1, rfl, h1⟩
        · omega
        have a0 := cell_later hbel (h1 i hin).1
        have a1 := cell_later hbel (h1 i hin).2.1
        have a2 := cell_later hbel (h1 i hin).2.2
        clear h1 hn hB hg
        by_cases hz : cmp (x i).1 q = 0
        · have hz' : (cmp (x i).1 q == 0) = true := by simpa using hz
          have HZ := show Hid _ from hz
          clear hz
          go_wp2_with fail
          refine HK.out _ _ ?_
          go_wp2_with fail
          refine Calls.mono (HC.out i _) ?_
          rintro e w1 ⟨rfl, hb1⟩
          have hb2 := hbel.trans (hb1.mono hbel.size)
          clear hb1
          dsimp only
          go_wp2_with fail
          go_ret2
          have hB := HB.out
          exact ⟨hb2, i, true, rfl, hB.2.1, hB.2.2.1, hB.2.2.2, by simp [hin, HZ.out]⟩
        · have hz' : (cmp (x i).1 q == 0) = false := by simpa using hz
          have HZ := show Hid _ from hz
          clear hz
          go_wp2_with fail
          refine HK.out _ _ ?_
          go_wp2_with fail
          refine Calls.mono (HC.out i _) ?_
          rintro e w1 ⟨rfl, hb1⟩
          have hb2 := hbel.trans (hb1.mono hbel.size)
          clear hb1
          dsimp only
          go_wp2_with fail
          go_ret2
          have hB := HB.out
          exact ⟨hb2, i, false, rfl, hB.2.1, hB.2.2.1, hB.2.2.2, ⟨(fun h => by cases h), (fun h => absurd h.2 HZ.out)⟩⟩
      · clear hn hB hg
        go_wp2_with fail
        refine HK.out _ _ ?_
        go_wp2_with fail
        go_ret2
        have hB := HB.out
        exact ⟨hbel, i, false, rfl, hB.2.1, hB.2.2.1, hB.2.2.2, by simp [hin]⟩

/-- A vector's list, as 'list' hands it on. -/
def Lis (w : World) (np : Option Addr) (p : Option Addr) (n c : Nat) : Prop := (np = none ∧ p = none ∧ n = 0 ∧ c = 0) ∨ ∃ NP, np = some ⟨NP, 0, none⟩ ∧ w.cell? ⟨NP, 0, none⟩ = some (.slice p n c)
theorem list_any (a b c d : Value) (np p : Option Addr) (n k : Nat) (w : World) (h : Lis w np p n k) :
    Calls Yba.prog 23 #[.agg #[a, b, c, d, .pointer np]] w fun e w' => e = .returned (.slice p n k) ∧ Below w.heap.size w w' := by
  rcases h with ⟨rfl, rfl, rfl, rfl⟩ | ⟨NP, rfl, h⟩
  · exact list_nil a b c d w
  · exact list_some a b c d NP _ w h
theorem Lis.later {w w' : World} {np p : Option Addr} {n c : Nat} (h : Lis w np p n c) (hb : Below w.heap.size w w') : Lis w' np p n c := by
  rcases h with h | ⟨NP, h1, h2⟩
  · exact .inl h
  · exact .inr ⟨NP, h1, cell_later hb h2⟩

set_option maxRecDepth 100000 in
set_option maxHeartbeats 1000000 in
theorem find_any (a b c d : Int) (np p : Option Addr) (n k : Nat) (x : Nat → Ent) (q : ByteArray) (w : World) (hn : n ≤ 1048576) (hl : Lis w np p n k) (hx : See3 w p n x) :
    Calls Yba.prog 28 #[vec a b c d np, .string q] w fun e w' => Below w.heap.size w w' ∧ ∃ i fd, e = .returned (.tuple #[.int .i64 (i : Nat), .bool fd]) ∧ Hit x n q i fd := by
  have hb := (Below.refl w.heap.size w).alloc (Nat.le_refl _) (.cells #[.int .i64 a, .int .u64 b, .int .i64 c, .int .u64 d, .pointer np] 41)
  have HL := show Hid _ from list_any (.int .i64 a) (.int .u64 b) (.int .i64 c) (.int .u64 d) np p n k _ (hl.later hb)
  have HS := show Hid _ from fun V (hV : Below w.heap.size w V) => search_any p n k x q V hn (hx.later hV)
  have HB := show Hid _ from hb
  unfold fn37 at *
  unfold vec
  clear hb hl hx hn
  go_enter Yba.func28, Yba.ntmps28
  go_wp2_with fail
  refine Calls.mono HL.out ?_
  rintro e w1 ⟨rfl, hb1⟩
  have hb2 := HB.out.trans (hb1.mono HB.out.size)
  clear hb1
  dsimp only
  go_wp2_with fail
  refine Calls.mono (HS.out _ hb2) ?_
  rintro e w2 ⟨hb3, i, fd, rfl, hh⟩
  have hb4 := hb2.trans (hb3.mono hb2.size)
  have HH := show Hid _ from hh
  clear hb2 hb3 hh
  dsimp only
  go_wp2_with fail
  go_ret2
  exact ⟨hb4, i, fd, rfl, HH.out⟩

theorem Yba.info26' : (Yba.prog.info? 26).map (fun i => (i.zero, i.size, i.bytes)) = some (some (.agg #[.int .i64 0, .int .u64 0]), 2, 16) := by kernel_rfl
theorem stored2 {V : World} {B : Nat} {cs : Array Value} (c0 c1 : Value) (h : V.heap[B]? = some (.cells cs 26 (0, 0))) (hs : cs.size = 2) :
    ((V.setCell ⟨B, 0, none⟩ c0).setCell ⟨B, 1, none⟩ c1).heap[B]? = some (.cells #[c0, c1] 26 (0, 0)) := by
  have hr : V.rowIs B 26 2 (fun i => cs.getD i undef) := ⟨cs, h, hs, fun i hi => by rw [Array.getElem?_eq_getElem (by omega)]; simp [Array.getD, show i < cs.size by omega]⟩
  obtain ⟨c, h1, h2, h3⟩ := (hr.set 0 c0).set 1 c1
  rw [h1]
  obtain ⟨l⟩ := c
  match l, h2 with
  | [z0, z1], _ =>
    have e0 := h3 0 (by omega)
    have e1 := h3 1 (by omega)
    simp at e0 e1
    subst e0 e1
    rfl

/-- What NamedAmount answers. -/
def amt (x : Nat → Ent) (i : Nat) (fd : Bool) : Value := if fd then .agg #[.int .i64 (x i).2.1, .int .u64 (x i).2.2] else .agg #[.int .i64 0, .int .u64 0]

theorem results14 (tmps : Array Value) (w : World) (B : Nat) (cs : Array Value) (fd : Bool) (h1 : tmps.getD 4 undef = .pointer (some ⟨B, 0, none⟩)) (h2 : w.heap[B]? = some (.cells cs 26 (0, 0))) (h3 : cs.size = 2) (h4 : tmps.getD 5 undef = .bool fd) :
    (results Yba.f14 tmps).run Yba.prog w = .ok (.tuple #[.agg cs, .bool fd]) w := by
  obtain ⟨i0, hi, hz0, hz1, hz2⟩ := info_parts Yba.info26'
  rw [results_cell_tmp rfl, h1, h4]
  simp [asAddr, run_loadVar_row w B 26 26 cs (0, 0) _ h2 Yba.underlying26 rfl (by rw [hi]; simp [hz1, h3])]

set_option maxRecDepth 100000 in
set_option maxHeartbeats 1000000 in
theorem named_any (a b c d : Int) (np p : Option Addr) (n k : Nat) (x : Nat → Ent) (q : ByteArray) (w : World) (hn : n ≤ 1048576) (hl : Lis w np p n k) (hx : See3 w p n x) :
    Calls Yba.prog 14 #[vec a b c d np, .string q] w fun e w' => Below w.heap.size w w' ∧ ∃ i fd, e = .returned (.tuple #[amt x i fd, .bool fd]) ∧ Hit x n q i fd := by
  have hb := ((Below.refl w.heap.size w).alloc (Nat.le_refl _) (.cells #[.int .i64 a, .int .u64 b, .int .i64 c, .int .u64 d, .pointer np] 41)).alloc (by simp) (.cells #[.int .i64 0, .int .u64 0] 26)
  have HF := show Hid _ from find_any a b c d np p n k x q _ hn (hl.later hb) (hx.later hb)
  have HB := show Hid _ from hb
  have HL := show Hid _ from fun V (hV : Below w.heap.size w V) => list_any (.int .i64 a) (.int .u64 b) (.int .i64 c) (.int .u64 d) np p n k V (hl.later hV)
  have HX := show Hid _ from hx
  unfold vec at *
  clear hb hl hx hn
  go_enter Yba.func14, Yba.ntmps14
  go_wp2_with fail
  refine Calls.mono HF.out ?_
  rintro e w1 ⟨hb1, i, fd, rfl, hh⟩
  have hb2 := HB.out.trans (hb1.mono HB.out.size)
  have v1 : w1.heap[w.heap.size]? = some (.cells #[.int .i64 a, .int .u64 b, .int .i64 c, .int .u64 d, .pointer np] 41 (0, 0)) := by
    rw [hb1.block _ (by simp; omega), Below.heap_alloc _ _ _ (by simp)]
    exact heap_alloc_new w _
  have v2 : w1.heap[w.heap.size + 1]? = some (.cells #[.int .i64 0, .int .u64 0] 26 (0, 0)) := by
    rw [hb1.block _ (by simp)]
    have := heap_alloc_new (w.alloc (.cells #[.int .i64 a, .int .u64 b, .int .i64 c, .int .u64 d, .pointer np] 41)) (.cells #[.int .i64 0, .int .u64 0] 26)
    rwa [show (w.alloc (.cells #[.int .i64 a, .int .u64 b, .int .i64 c, .int .u64 d, .pointer np] 41)).heap.size = w.heap.size + 1 by simp] at this
  have x0 := cell_of (i := 0) v1 rfl
  have x1 := cell_of (i := 1) v1 rfl
  have x2 := cell_of (i := 2) v1 rfl
  have x3 := cell_of (i := 3) v1 rfl
  have x4 := cell_of (i := 4) v1 rfl
  have y0 := cell_of (i := 0) v2 rfl
  have y1 := cell_of (i := 1) v2 rfl
  have f0 := frozen_of 0 v2
  have f1 := frozen_of 1 v2
  have HH := show Hid _ from And.intro hh (And.intro v2 hb2)
  clear hb1 hh v1 v2
  cases fd
  · clear hb2
    dsimp only
    go_wp2_with fail
    obtain ⟨hh, v2, hb2⟩ := HH.out
    refine bodyPost_ret (results14 _ _ (w.heap.size + 1) _ false rfl (stored2 _ _ v2 rfl) rfl rfl) rfl ?_
    exact ⟨(hb2.setCell (p := ⟨w.heap.size + 1, 0, none⟩) (by show w.heap.size ≤ w.heap.size + 1; omega) _).setCell (p := ⟨w.heap.size + 1, 1, none⟩) (by show w.heap.size ≤ w.heap.size + 1; omega) _, i, false, rfl, hh⟩
  · have hin : i < n := (HH.out.1.2.2.2.1 rfl).1
    rcases HX.out with h1 | ⟨b1, o1, rfl, h1⟩
    · omega
    dsimp only
    go_wp2_with fail
    refine Calls.mono (HL.out _ hb2) ?_
    rintro e w2 ⟨rfl, hb3⟩
    have hb4 := hb2.trans (hb3.mono hb2.size)
    have hl2 : w.heap.size + 1 < w1.heap.size := World.block_lt_of_cell? w1 _ y0
    have c0 := cell_later hb4 (h1 i hin).1
    have c1 := cell_later hb4 (h1 i hin).2.1
    have c2 := cell_later hb4 (h1 i hin).2.2
    have z0 := cell_later hb3 y0
    have z1 := cell_later hb3 y1
    have v3 : w2.heap[w.heap.size + 1]? = some (.cells #[.int .i64 0, .int .u64 0] 26 (0, 0)) := by rw [hb3.block _ hl2]; exact HH.out.2.1
    have k0 := frozen_of 0 v3
    have k1 := frozen_of 1 v3
    have HV := show Hid _ from And.intro v3 hb4
    clear h1 hb2 hb3 hb4 v3 x0 x1 x2 x3 x4 y0 y1 f0 f1 hl2
    dsimp only
    go_wp2_with fail
    obtain ⟨v3, hb4⟩ := HV.out
    refine bodyPost_ret (results14 _ _ (w.heap.size + 1) _ true rfl (stored2 _ _ v3 rfl) rfl rfl) rfl ?_
    exact ⟨(hb4.setCell (p := ⟨w.heap.size + 1, 0, none⟩) (by show w.heap.size ≤ w.heap.size + 1; omega) _).setCell (p := ⟨w.heap.size + 1, 1, none⟩) (by show w.heap.size ≤ w.heap.size + 1; omega) _, i, true, rfl, HH.out.1⟩
end Go.Proofs.Ybulkexnoq
