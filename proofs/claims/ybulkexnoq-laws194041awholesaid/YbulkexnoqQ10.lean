import Derived.Test.YbulkexnoqQ18
import Derived.Laws.MakeOwn
namespace Go.Proofs.Ybulkexnoq
open Go.RowKit
set_option linter.unusedVariables false
set_option linter.unusedSimpArgs false

def made3 (n : Nat) : Array Value := madeCells #[.string ⟨#[]⟩, .int .i64 0, .int .u64 0] (n * 3)
theorem make3 (n : Nat) (hn : n ≤ 1048576) (V : World) : (Instr.makeSlice 32 (.int .i64 (n : Int)) (.int .i64 (n : Int))).run Yba.prog V = .ok (.slice (some ⟨V.heap.size, 0, none⟩) n n) (V.alloc (.cells (made3 n) 36)) := by
  obtain ⟨i0, hi, hz0, hz1, hz2⟩ := info_parts Yba.info36
  have hr := run_make (P := Yba.prog) V 32 36 i0 _ Yba.underlying32 hi hz0 .i64 .i64 n n (by omega) (Int.le_refl _) (by rw [hz2]; omega) (by omega)
  simp only [Int.toNat_natCast, hz1] at hr
  exact hr
theorem made3_row (n : Nat) (V : World) : (V.alloc (.cells (made3 n) 36)).rowIs V.heap.size 36 (n * 3) (fun i => (made3 n).getD i undef) := by
  have h := World.rowIs_alloc V (made3 n) 36 (fun i => (made3 n).getD i undef) (fun i hi => by rw [Array.getElem?_eq_getElem hi]; simp [Array.getD, hi])
  rwa [show (made3 n).size = n * 3 from size_madeCells _ _] at h

/-- k elements of both rows are laid. -/
def Filled (W : World) (n : Nat) (x : Nat → Ent) (k : Nat) (wr : World) : Prop :=
  Below W.heap.size W wr ∧ W.heap.size + 2 ≤ wr.heap.size ∧ (∃ F, wr.rowIs W.heap.size 36 (n * 3) F ∧ ∀ q, q < k * 3 → F q = cell3 x q) ∧ ∃ F, wr.rowIs (W.heap.size + 1) 36 (n * 3) F ∧ ∀ q, q < k * 3 → F q = cell3 x q

theorem set3 {w : World} {g m k : Nat} {F : Nat → Value} {x : Nat → Ent} (h : w.rowIs g 36 m F) (hF : ∀ q, q < k * 3 → F q = cell3 x q) :
    ∃ G, (((w.setCell ⟨g, k * 3, none⟩ (.string (x k).1)).setCell ⟨g, k * 3 + 1, none⟩ (.int .i64 (x k).2.1)).setCell ⟨g, k * 3 + 2, none⟩ (.int .u64 (x k).2.2)).rowIs g 36 m G ∧ ∀ q, q < (k + 1) * 3 → G q = cell3 x q := by
  refine ⟨_, ((h.set (k * 3) _).set (k * 3 + 1) _).set (k * 3 + 2) _, fun q hq => ?_⟩
  rcases Nat.lt_or_ge q (k * 3) with hq3 | hq3
  · simp only [show ¬ q = k * 3 + 2 by omega, show ¬ q = k * 3 + 1 by omega, show ¬ q = k * 3 by omega, if_false]
    exact hF q hq3
  · have : q = k * 3 ∨ q = k * 3 + 1 ∨ q = k * 3 + 2 := by omega
    rcases this with rfl | rfl | rfl
    · rw [cell3_0]; simp
    · rw [cell3_1]; simp
    · rw [cell3_2]; simp
theorem far3 (w : World) {g b k : Nat} (v0 v1 v2 : Value) (h : b ≠ g) : (((w.setCell ⟨g, k * 3, none⟩ v0).setCell ⟨g, k * 3 + 1, none⟩ v1).setCell ⟨g, k * 3 + 2, none⟩ v2).heap[b]? = w.heap[b]? := by
  repeat rw [Below.heap_setCell _ _ _ _ h]
theorem below3 {B : Nat} {a w : World} (h : Below B a w) {g k : Nat} (v0 v1 v2 : Value) (hg : B ≤ g) : Below B a (((w.setCell ⟨g, k * 3, none⟩ v0).setCell ⟨g, k * 3 + 1, none⟩ v1).setCell ⟨g, k * 3 + 2, none⟩ v2) :=
  ((h.setCell (p := ⟨g, k * 3, none⟩) hg _).setCell (p := ⟨g, k * 3 + 1, none⟩) hg _).setCell (p := ⟨g, k * 3 + 2, none⟩) hg _
theorem Filled.start (W : World) (n : Nat) (x : Nat → Ent) : Filled W n x 0 ((W.alloc (.cells (made3 n) 36)).alloc (.cells (made3 n) 36)) := by
  have h2 := made3_row n (W.alloc (.cells (made3 n) 36))
  rw [show (W.alloc (.cells (made3 n) 36)).heap.size = W.heap.size + 1 by simp] at h2
  exact ⟨((Below.refl W.heap.size W).alloc (Nat.le_refl _) _).alloc (by simp) _, by simp, ⟨_, (made3_row n W).of_block (Below.heap_alloc _ _ _ (by simp)), fun q hq => by omega⟩, _, h2, fun q hq => by omega⟩
theorem Filled.step {W : World} {n k : Nat} {x : Nat → Ent} {wr V : World} (h : Filled W n x k wr) (hV : Below wr.heap.size wr V) :
    Filled W n x (k + 1) ((((((V.setCell ⟨W.heap.size, k * 3, none⟩ (.string (x k).1)).setCell ⟨W.heap.size, k * 3 + 1, none⟩ (.int .i64 (x k).2.1)).setCell ⟨W.heap.size, k * 3 + 2, none⟩ (.int .u64 (x k).2.2)).setCell
      ⟨W.heap.size + 1, k * 3, none⟩ (.string (x k).1)).setCell ⟨W.heap.size + 1, k * 3 + 1, none⟩ (.int .i64 (x k).2.1)).setCell ⟨W.heap.size + 1, k * 3 + 2, none⟩ (.int .u64 (x k).2.2)) := by
  obtain ⟨hbel, hsz, ⟨F1, hr1, hF1⟩, F2, hr2, hF2⟩ := h
  have q1 := hr1.of_block (hV.block _ (by omega))
  have q2 := hr2.of_block (hV.block _ (by omega))
  obtain ⟨G1, h1, hG1⟩ := set3 q1 hF1
  obtain ⟨G2, h2, hG2⟩ := set3 (q2.of_block (far3 V (g := W.heap.size) (k := k) (.string (x k).1) (.int .i64 (x k).2.1) (.int .u64 (x k).2.2) (by omega))) hF2
  have b1 := below3 (k := k) (hbel.trans (hV.mono hbel.size)) (g := W.heap.size) (.string (x k).1) (.int .i64 (x k).2.1) (.int .u64 (x k).2.2) (Nat.le_refl _)
  refine ⟨below3 b1 _ _ _ (by omega), ?_, ⟨G1, h1.of_block (far3 _ _ _ _ (by omega)), hG1⟩, G2, h2, hG2⟩
  have := hV.size
  simp
  omega

set_option maxRecDepth 100000 in
set_option maxHeartbeats 1000000 in
theorem t10 (w0 W : World) (M n c1 : Nat) (p1 : Option Addr) (x : Nat → Ent) (a b c d : Int) (hn : n ≤ 1048576) (hM : W.heap[M]? = some (.cells #[.int .i64 a, .int .u64 b, .int .i64 c, .int .u64 d] 28 (0, 0))) (hx : See3 W p1 n x) (hl : ∀ i, 0 ≤ (x i).2.2)
    (hb : Below w0.heap.size w0 W)
    (u0 u2 u3 u4 u6 u7 u8 u9 u10 u11 u12 u13 u14 u15 u16 u17 u18 u19 u20 u21 u22 u23 u24 u25 u26 u27 u28 u29 u30 u31 u32 u33 u34 u35 u36 u37 u38 u39 u40 u41 u42 u43 u44 u45 u46 u47 u48 u49 u50 u51 u52 u53 u54 u55 u56 u57 u58 u59 u60 u61 u62 u63 u64 u65 u66 u67 u68 u69 u70 u71 u72 u73 u74 u75 u76 u77 u78 u79 u80 u81 u82 u83 u84 u85 u86 u87 u88 u89 u90 u91 u92 u93 u94 u95 u96 u97 u98 u99 u100 u101 u102 u103 u104 u105 u106 u107 u108 u109 u110 u111 u112 u113 u114 u115 u116 u117 u118 u119 u120 u121 u122 u123 u124 u125 u126 u127 u128 u129 u130 u131 u132 u133 u134 u135 u136 u137 u138 u139 u140 u141 u142 u143 u144 u145 u146 u147 u148 u149 u150 u151 u152 u153 u154 u155 u156 u157 u158 u159 u160 u161 u162 u163 u164 u165 u166 u167 u168 u169 u170 u171 u172 u173 u174 u175 u176 u177 u178 u179 u180 u181 : Value) :
    Code.wp Yba.prog (chain 10 (Yba.f3.body.getD .skip)) (bodyPost Yba.prog Yba.f3 fun e w' => e = .returned (.bool true) ∧ Below w0.heap.size w0 w')
      ⟨#[u0, .slice p1 n c1, u2, u3, u4, .pointer (some ⟨M, 0, none⟩), u6, u7, u8, u9, u10, u11, u12, u13, u14, u15, u16, u17, u18, u19, u20, u21, u22, u23, u24, u25, u26, u27, u28, u29, u30, u31, u32, u33, u34, u35, u36, u37, u38, u39, u40, u41, u42, u43, u44, u45, u46, u47, u48, u49, u50, u51, u52, u53, u54, u55, u56, u57, u58, u59, u60, u61, u62, u63, u64, u65, u66, u67, u68, u69, u70, u71, u72, u73, u74, u75, u76, u77, u78, u79, u80, u81, u82, u83, u84, u85, u86, u87, u88, u89, u90, u91, u92, u93, u94, u95, u96, u97, u98, u99, u100, u101, u102, u103, u104, u105, u106, u107, u108, u109, u110, u111, u112, u113, u114, u115, u116, u117, u118, u119, u120, u121, u122, u123, u124, u125, u126, u127, u128, u129, u130, u131, u132, u133, u134, u135, u136, u137, u138, u139, u140, u141, u142, u143, u144, u145, u146, u147, u148, u149, u150, u151, u152, u153, u154, u155, u156, u157, u158, u159, u160, u161, u162, u163, u164, u165, u166, u167, u168, u169, u170, u171, u172, u173, u174, u175, u176, u177, u178, u179, u180, u181], []⟩ W := by
  conv => arg 2; whnf
  have HS := show Hid _ from hx
  have H := show Hid _ from And.intro hM hl
  have mk := make3 n hn
  clear hM hx hl
  go_wp2_with fail
  go_loopg [9] n (fun gh s9 wr => ∃ k : Nat, k ≤ n ∧ n - k ≤ gh ∧ s9 = .int .i64 k ∧ Hid (Filled W n x k wr))
  case atStart => exact ⟨0, Nat.zero_le _, by omega, rfl, show Hid _ from Filled.start W n x⟩
  case round =>
    rename_i Kx hKx J1 J2 J3 J4
    have HK := show Hid _ from hKx
    clear hKx
    obtain ⟨k, hk, hg, rfl, HF⟩ := hrel
    by_cases hlt : k < n
    · obtain ⟨hbel, hsz, ⟨F1, hr1, hF1⟩, F2, hr2, hF2⟩ := HF.out
      rcases HS.out with h1 | ⟨b1, o1, rfl, h1⟩
      · omega
      have g0 := cell_later hbel (h1 k hlt).1
      have g1 := cell_later hbel (h1 k hlt).2.1
      have g2 := cell_later hbel (h1 k hlt).2.2
      have e2 : decide ((k : Int) < (n : Int)) = true := decide_eq_true (by omega)
      have hb1lt : b1 < wr.heap.size := World.block_lt_of_cell? wr _ g0
      have gg0 := fun ob => (World.cell?_alloc_lt wr ob ⟨b1, o1 + k * 3, none⟩ hb1lt).trans g0
      have gg1 := fun ob => (World.cell?_alloc_lt wr ob ⟨b1, o1 + k * 3 + 1, none⟩ hb1lt).trans g1
      have gg2 := fun ob => (World.cell?_alloc_lt wr ob ⟨b1, o1 + k * 3 + 2, none⟩ hb1lt).trans g2
      have HR := show Hid _ from And.intro hr1 (And.intro hF1 (And.intro hr2 hF2))
      clear h1 hr1 hF1 hr2 hF2
      go_wp2_with fail
      go_big_region
      generalize hV : (wr.alloc (.cells #[.string (x k).1, .int .i64 (x k).2.1, .int .u64 (x k).2.2] 36)).drew = V
      have hbV : Below wr.heap.size wr V := by rw [← hV]; exact ((Below.refl _ _).alloc (Nat.le_refl _) _).drew
      have x0 : V.cell? ⟨wr.heap.size, 0, none⟩ = some (.string (x k).1) := by rw [← hV]; simp
      have x1 : V.cell? ⟨wr.heap.size, 1, none⟩ = some (.int .i64 (x k).2.1) := by rw [← hV]; simp
      have x2 : V.cell? ⟨wr.heap.size, 2, none⟩ = some (.int .u64 (x k).2.2) := by rw [← hV]; simp
      have hr1 := (rowIs_of' HR.out.1).of_block (hbV.block _ (by omega))
      have hr2 := (rowIs_of' HR.out.2.2.1).of_block (hbV.block _ (by omega))
      have s0 := hr1.cell (show k * 3 < n * 3 by omega)
      have s1 := hr1.cell (show k * 3 + 1 < n * 3 by omega)
      have s2 := hr1.cell (show k * 3 + 2 < n * 3 by omega)
      have f0 := hr1.frozen (k * 3)
      have f1 := hr1.frozen (k * 3 + 1)
      have f2 := hr1.frozen (k * 3 + 2)
      have t0 := hr2.cell (show k * 3 < n * 3 by omega)
      have t1 := hr2.cell (show k * 3 + 1 < n * 3 by omega)
      have t2 := hr2.cell (show k * 3 + 2 < n * 3 by omega)
      have v0 := hr2.frozen (k * 3)
      have v1 := hr2.frozen (k * 3 + 1)
      have v2 := hr2.frozen (k * 3 + 2)
      have n1 : wr.heap.size ≠ W.heap.size := by omega
      have n2 : W.heap.size ≠ wr.heap.size := by omega
      have HR2 := show Hid _ from And.intro hr1 hr2
      have HBV := show Hid _ from And.intro hbV hsz
      clear hV hbV hr1 hr2 g0 g1 g2 gg0 gg1 gg2 hb1lt hsz
      go_wp2_with fail
      go_roundg (n - (k + 1))
      case measure => omega
      case rel => exact ⟨k + 1, by omega, by omega, by go_num, show Hid _ from Filled.step HF.out HBV.out.1⟩
    · obtain rfl : k = n := by omega
      have e2 : decide ((k : Int) < (k : Int)) = false := decide_eq_false (by omega)
      go_wp2_with fail
      refine HK.out _ _ ?_
      obtain ⟨hbel, hsz, ⟨F1, hr1, hF1⟩, F2, hr2, hF2⟩ := HF.out
      obtain ⟨hM, hl⟩ := H.out
      apply t18 w0 wr M W.heap.size (W.heap.size + 1) k k k x a b c d hn (by rw [hbel.block _ (lt_of_block' hM)]; exact hM) (at_row hr1 (Nat.le_refl _) hF1) (at_row hr2 (Nat.le_refl _) hF2) hl (hb.trans (hbel.mono hb.size))
end Go.Proofs.Ybulkexnoq
