import Derived.Test.YbulkexnoqRU34
namespace Go.Proofs.Ybulkexnoq
open Go.RowKit
set_option linter.unusedVariables false
set_option linter.unusedSimpArgs false

theorem str_ne {a b : ByteArray} (h : a ≠ b) : (a.toList == b.toList) = false := by
  cases e : (a.toList == b.toList)
  · rfl
  · rw [beq_iff_eq, ByteArray.toList_eq, ByteArray.toList_eq] at e
    exact absurd (ByteArray.ext (Array.toList_inj.mp e)) h
theorem At3.lt' {w : World} {b o n : Nat} {x : Nat → Ent} (h : At3 w b o n x) (hn : 0 < n) : b < w.heap.size := World.block_lt_of_cell? w _ (h 0 hn).1
theorem At3.far' {w w' : World} {b o n : Nat} {x : Nat → Ent} (h : At3 w b o n x) (e : w'.heap[b]? = w.heap[b]?) : At3 w' b o n x := fun i hi => by
  have k : ∀ j, w'.cell? ⟨b, j, none⟩ = w.cell? ⟨b, j, none⟩ := fun j => World.cell?_of_block e
  rw [k, k, k]
  exact h i hi

set_option maxRecDepth 100000 in
set_option maxHeartbeats 1000000 in
theorem u20t (w0 W : World) (U n uc : Nat) (q : ByteArray) (z : Nat → Ent) (hn : n ≤ 1048576) (hU : At3 W U 0 n z) (hUl : U < W.heap.size) (hb : Below w0.heap.size w0 W)
    (u0 u1 u2 u4 u5 u6 u7 u8 u10 u11 u12 u14 u15 u16 u17 u18 u19 u20 u21 u22 u23 u24 u25 u26 u27 u28 u29 u30 u31 u32 u33 u34 u35 u36 u37 u38 u39 u40 u41 u42 u43 u44 u45 u46 u47 u48 u49 u50 u51 u52 u53 u54 u55 u56 u57 u58 u59 u60 u61 u62 u63 u64 u65 u66 u67 u68 u69 u70 u71 u72 u73 u74 u75 u76 u77 u78 u79 u80 u81 u82 u83 u84 u85 u86 u87 u88 u89 u90 u91 u92 u93 u94 u95 u96 u97 u98 u99 u100 u101 u102 u103 u104 u105 u106 u107 u108 u109 u110 u111 u112 u113 u114 u115 u116 u117 u118 u119 u120 u121 u122 u123 u124 u125 u126 u127 u128 u129 u130 u131 u132 u133 u134 u135 u136 u137 u138 u139 u140 u141 u142 u143 u144 u145 u146 u147 u148 u149 u150 u151 u152 u153 u154 : Value) :
    Code.wp Yba.prog (chain2 20 (Yba.f4.body.getD .skip)) (bodyPost Yba.prog Yba.f4 fun e w' => e = .returned (.bool true) ∧ Below w0.heap.size w0 w')
      ⟨#[u0, u1, u2, .bool true, u4, u5, u6, u7, u8, .string q, u10, u11, u12, .slice (some ⟨U, 0, none⟩) n uc, u14, u15, u16, u17, u18, u19, u20, u21, u22, u23, u24, u25, u26, u27, u28, u29, u30, u31, u32, u33, u34, u35, u36, u37, u38, u39, u40, u41, u42, u43, u44, u45, u46, u47, u48, u49, u50, u51, u52, u53, u54, u55, u56, u57, u58, u59, u60, u61, u62, u63, u64, u65, u66, u67, u68, u69, u70, u71, u72, u73, u74, u75, u76, u77, u78, u79, u80, u81, u82, u83, u84, u85, u86, u87, u88, u89, u90, u91, u92, u93, u94, u95, u96, u97, u98, u99, u100, u101, u102, u103, u104, u105, u106, u107, u108, u109, u110, u111, u112, u113, u114, u115, u116, u117, u118, u119, u120, u121, u122, u123, u124, u125, u126, u127, u128, u129, u130, u131, u132, u133, u134, u135, u136, u137, u138, u139, u140, u141, u142, u143, u144, u145, u146, u147, u148, u149, u150, u151, u152, u153, u154], []⟩ W := by
  conv => arg 2; whnf
  have hal := (Below.refl W.heap.size W).alloc (Nat.le_refl _) (.cells #[.int .i64 0, .int .u64 0, .int .i64 0, .int .u64 0, .pointer none] 41)
  have HC := show Hid _ from clone_all U 0 n uc z _ hn (hU.later hal) (Nat.lt_of_lt_of_le hUl hal.size)
  have HAL := show Hid _ from hal
  clear hU hUl hal hn
  go_upto_region 26 with (first | (go_at_call 13; refine Calls.mono HC.out ?_; rintro e w2 ⟨g, cap, rfl, hg, ha, hb2⟩; dsimp only))
  rename_i K3 hK3 K4 hK4
  have HK3 := show Hid _ from hK3
  clear hK3
  go_wp2_with fail
  refine HK3.out _ _ ?_
  have v1 : w2.heap[W.heap.size]? = some (.cells #[.int .i64 0, .int .u64 0, .int .i64 0, .int .u64 0, .pointer none] 41 (0, 0)) := by
    rw [hb2.block _ (by simp)]
    exact heap_alloc_new W _
  have hl := lt_of_block'' v1
  have hb3 := (HAL.out.trans (hb2.mono HAL.out.size))
  apply u34t w0 (w2.alloc (.cells #[.int .i64 0, .int .u64 0] 26)) W.heap.size w2.heap.size q (by rw [Below.heap_alloc _ _ _ hl]; exact v1) (heap_alloc_new w2 _) ((hb.trans (hb3.mono hb.size)).alloc (Nat.le_trans hb.size hb3.size) _)

set_option maxRecDepth 100000 in
set_option maxHeartbeats 1000000 in
theorem u20f (w0 W : World) (U n uc : Nat) (q : ByteArray) (z : Nat → Ent) (hn : n ≤ 1048576) (hU : At3 W U 0 n z) (hUl : U < W.heap.size) (hs : Str z n) (hb : Below w0.heap.size w0 W)
    (u0 u1 u2 u4 u5 u6 u7 u8 u10 u11 u12 u14 u15 u16 u17 u18 u19 u20 u21 u22 u23 u24 u25 u26 u27 u28 u29 u30 u31 u32 u33 u34 u35 u36 u37 u38 u39 u40 u41 u42 u43 u44 u45 u46 u47 u48 u49 u50 u51 u52 u53 u54 u55 u56 u57 u58 u59 u60 u61 u62 u63 u64 u65 u66 u67 u68 u69 u70 u71 u72 u73 u74 u75 u76 u77 u78 u79 u80 u81 u82 u83 u84 u85 u86 u87 u88 u89 u90 u91 u92 u93 u94 u95 u96 u97 u98 u99 u100 u101 u102 u103 u104 u105 u106 u107 u108 u109 u110 u111 u112 u113 u114 u115 u116 u117 u118 u119 u120 u121 u122 u123 u124 u125 u126 u127 u128 u129 u130 u131 u132 u133 u134 u135 u136 u137 u138 u139 u140 u141 u142 u143 u144 u145 u146 u147 u148 u149 u150 u151 u152 u153 u154 : Value) :
    Code.wp Yba.prog (chain2 20 (Yba.f4.body.getD .skip)) (bodyPost Yba.prog Yba.f4 fun e w' => e = .returned (.bool true) ∧ Below w0.heap.size w0 w')
      ⟨#[u0, u1, u2, .bool false, u4, u5, u6, u7, u8, .string q, u10, u11, u12, .slice (some ⟨U, 0, none⟩) n uc, u14, u15, u16, u17, u18, u19, u20, u21, u22, u23, u24, u25, u26, u27, u28, u29, u30, u31, u32, u33, u34, u35, u36, u37, u38, u39, u40, u41, u42, u43, u44, u45, u46, u47, u48, u49, u50, u51, u52, u53, u54, u55, u56, u57, u58, u59, u60, u61, u62, u63, u64, u65, u66, u67, u68, u69, u70, u71, u72, u73, u74, u75, u76, u77, u78, u79, u80, u81, u82, u83, u84, u85, u86, u87, u88, u89, u90, u91, u92, u93, u94, u95, u96, u97, u98, u99, u100, u101, u102, u103, u104, u105, u106, u107, u108, u109, u110, u111, u112, u113, u114, u115, u116, u117, u118, u119, u120, u121, u122, u123, u124, u125, u126, u127, u128, u129, u130, u131, u132, u133, u134, u135, u136, u137, u138, u139, u140, u141, u142, u143, u144, u145, u146, u147, u148, u149, u150, u151, u152, u153, u154], []⟩ W := by
  conv => arg 2; whnf
  have HC := show Hid _ from fun Vx (hV : Below W.heap.size W Vx) => clone_all U 0 n uc z Vx hn (hU.later hV) (Nat.lt_of_lt_of_le hUl hV.size)
  have H := show Hid _ from And.intro hn (And.intro hU hs)
  clear hU hUl hn hs
  have hal := ((Below.refl W.heap.size W).alloc (Nat.le_refl _) (.cells #[.int .i64 0, .int .u64 0, .int .i64 0, .int .u64 0, .pointer (some ⟨W.heap.size + 1, 0, none⟩)] 41)).alloc (by simp) (.cells #[.slice (some ⟨U, 0, none⟩) n uc] 39)
  have HAL := show Hid _ from hal
  clear hal
  go_upto_region 26 with (first | (go_at_call 13; refine Calls.mono (HC.out _ HAL.out) ?_; rintro e w2 ⟨g, cap, rfl, hg, ha, hb2⟩; dsimp only))
  rename_i K3 hK3 K4 hK4
  have HK3 := show Hid _ from hK3
  clear hK3
  have v1 : w2.heap[W.heap.size]? = some (.cells #[.int .i64 0, .int .u64 0, .int .i64 0, .int .u64 0, .pointer (some ⟨W.heap.size + 1, 0, none⟩)] 41 (0, 0)) := by
    rw [hb2.block _ (by simp; omega), Below.heap_alloc _ _ _ (by simp)]
    exact heap_alloc_new W _
  have v2 : w2.heap[W.heap.size + 1]? = some (.cells #[.slice (some ⟨U, 0, none⟩) n uc] 39 (0, 0)) := by
    rw [hb2.block _ (by simp)]
    have := heap_alloc_new (W.alloc (.cells #[.int .i64 0, .int .u64 0, .int .i64 0, .int .u64 0, .pointer (some ⟨W.heap.size + 1, 0, none⟩)] 41)) (.cells #[.slice (some ⟨U, 0, none⟩) n uc] 39)
    rwa [show (W.alloc (.cells #[.int .i64 0, .int .u64 0, .int .i64 0, .int .u64 0, .pointer (some ⟨W.heap.size + 1, 0, none⟩)] 41)).heap.size = W.heap.size + 1 by simp] at this
  have hb3 := (HAL.out.trans (hb2.mono HAL.out.size))
  have HV := show Hid _ from And.intro v1 (And.intro v2 (And.intro hb3 (And.intro ha hg)))
  clear v1 v2 hb3 ha hb2 hg HC HAL
  go_wp2_with fail
  go_loopg [18, 113] n (fun gh s18 s113 wr => ∃ k : Nat, k ≤ n ∧ n - k ≤ gh ∧ s18 = .bool false ∧ s113 = .int .i64 k ∧ Below (w2.heap.size + 1) (w2.alloc (.cells #[.int .i64 0, .int .u64 0] 26)) wr ∧ Hid (∀ j, j < k → (z j).1 ≠ q))
  case atStart => exact ⟨0, Nat.zero_le _, by omega, rfl, rfl, Below.refl _ _, show Hid _ from fun j hj => by omega⟩
  case round =>
    obtain ⟨k, hk, hg, rfl, rfl, hbel, HQ⟩ := hrel
    obtain ⟨v1, v2, hb3, ha, hgg⟩ := HV.out
    have hA : wr.heap[w2.heap.size]? = some (.cells #[.int .i64 0, .int .u64 0] 26 (0, 0)) := by rw [hbel.block _ (by omega)]; exact heap_alloc_new w2 _
    have hbw : Below w2.heap.size w2 wr := ((Below.refl _ _).alloc (Nat.le_refl _) _).trans (hbel.mono (by omega))
    have hbW : Below W.heap.size W wr := hb3.trans (hbw.mono hb3.size)
    have hV : wr.heap[W.heap.size]? = some (.cells #[.int .i64 0, .int .u64 0, .int .i64 0, .int .u64 0, .pointer (some ⟨W.heap.size + 1, 0, none⟩)] 41 (0, 0)) := by rw [hbw.block _ (lt_of_block'' v1)]; exact v1
    have hNP : wr.heap[W.heap.size + 1]? = some (.cells #[.slice (some ⟨U, 0, none⟩) n uc] 39 (0, 0)) := by rw [hbw.block _ (lt_of_block'' v2)]; exact v2
    have hK : At3 wr g 0 n z := At3.later (b := g) (o := 0) (n := n) (x := z) ha hbw
    have hU2 : At3 wr U 0 n z := At3.later (b := U) (o := 0) (n := n) (x := z) H.out.2.1 hbW
    have hbf : Below w0.heap.size w0 wr := hb.trans (hbW.mono hb.size)
    have HALL := show Hid _ from And.intro hA (And.intro hV (And.intro hNP (And.intro hK (And.intro hU2 hbf))))
    by_cases hlt : k < n
    · obtain ⟨c0, c1, c2⟩ := hK k hlt
      simp only [Nat.zero_add] at c0 c1 c2
      have hAl := lt_of_block'' hA
      clear hA hV hNP hK hU2 hbf v1 v2 hb3 ha hgg hbw hbW
      by_cases hq : (z k).1 = q
      · have hq2 : ((z k).1.toList == q.toList) = true := by rw [hq]; simp
        have HQ2 := show Hid _ from hq
        clear hq
        go_upto_region 31 with (fail)
        generalize hV5 : wr.alloc (.cells #[.string (z k).1, .int .i64 (z k).2.1, .int .u64 (z k).2.2] 36) = V5
        have hb5 : Below wr.heap.size wr V5 := by rw [← hV5]; exact (Below.refl _ _).alloc (Nat.le_refl _) _
        have x1 : V5.cell? ⟨wr.heap.size, 1, none⟩ = some (.int .i64 (z k).2.1) := by rw [← hV5]; simp
        have x2 : V5.cell? ⟨wr.heap.size, 2, none⟩ = some (.int .u64 (z k).2.2) := by rw [← hV5]; simp
        have hA5 : V5.heap[w2.heap.size]? = some (.cells #[.int .i64 0, .int .u64 0] 26 (0, 0)) := by rw [hb5.block _ hAl]; exact HALL.out.1
        have y0 := cell_of (i := 0) hA5 rfl
        have y1 := cell_of (i := 1) hA5 rfl
        have f0 := frozen_of 0 hA5
        have f1 := frozen_of 1 hA5
        have H5 := show Hid _ from And.intro hb5 hA5
        clear hV5 hb5 hA5 c0 c1 c2
        go_wp2_with fail
        refine HK3.out _ _ ?_
        obtain ⟨hb5, hA5⟩ := H5.out
        obtain ⟨hA, hV, hNP, hK, hU2, hbf⟩ := HALL.out
        obtain ⟨v1, v2, hb3, ha, hgg⟩ := HV.out
        have l1 := lt_of_block'' v1
        have l2 := lt_of_block'' v2
        have far : ∀ b, b < wr.heap.size → b ≠ w2.heap.size → ((V5.setCell ⟨w2.heap.size, 0, none⟩ (.int .i64 (z k).2.1)).setCell ⟨w2.heap.size, 1, none⟩ (.int .u64 (z k).2.2)).heap[b]? = wr.heap[b]? := fun b h1 h2 => by
          rw [Below.heap_setCell _ _ _ _ h2, Below.heap_setCell _ _ _ _ h2]
          exact hb5.block b h1
        have hn0 : 0 < n := by omega
        have lg : g < w2.heap.size := ha.lt' hn0
        have lU : U < wr.heap.size := hU2.lt' hn0
        have lU2 : U ≠ w2.heap.size := by
          have := H.out.2.1.lt' hn0
          have := hb3.size
          omega
        apply u34f w0 ((V5.setCell ⟨w2.heap.size, 0, none⟩ (.int .i64 (z k).2.1)).setCell ⟨w2.heap.size, 1, none⟩ (.int .u64 (z k).2.2)) W.heap.size w2.heap.size (W.heap.size + 1) U g n uc cap q z (z k).2.1 (z k).2.2 true H.out.1
          (by rw [far _ (lt_of_block'' hV) (by omega)]; exact hV) (stored2 _ _ hA5 rfl) (by rw [far _ (lt_of_block'' hNP) (by omega)]; exact hNP) (hU2.far' (far _ lU lU2)) (hK.far' (far _ (hK.lt' hn0) (by omega)))
          (fun i fd hh => by
            obtain ⟨e1, e2⟩ := hit_at H.out.2.2 hh ⟨hlt, HQ2.out⟩
            subst e1 e2
            exact ⟨rfl, rfl⟩)
          (((hbf.trans (hb5.mono hbf.size)).setCell (p := ⟨w2.heap.size, 0, none⟩) (by show w0.heap.size ≤ w2.heap.size; have := hb.size; have := hb3.size; omega) _).setCell (p := ⟨w2.heap.size, 1, none⟩) (by show w0.heap.size ≤ w2.heap.size; have := hb.size; have := hb3.size; omega) _)
      · have hq2 : ((z k).1.toList == q.toList) = false := str_ne hq
        have HQ2 := show Hid _ from hq
        have hn := H.out.1
        clear hq
        go_wp2_with fail
        go_roundg (n - (k + 1))
        case measure => omega
        case rel =>
          refine ⟨k + 1, by omega, by omega, rfl, by go_num, hbel.alloc (by have := hbel.size; simp at this; omega) _, show Hid _ from fun j hj => ?_⟩
          by_cases e : j = k
          · subst e; exact HQ2.out
          · exact HQ.out j (by omega)
    · obtain rfl : k = n := by omega
      clear hA hV hNP hK hU2 hbf v1 v2 hb3 ha hgg hbw hbW
      go_wp2_with fail
      refine HK3.out _ _ ?_
      obtain ⟨hA, hV, hNP, hK, hU2, hbf⟩ := HALL.out
      apply u34f w0 wr W.heap.size w2.heap.size (W.heap.size + 1) U g k uc cap q z 0 0 false H.out.1 hV hA hNP hU2 hK
        (fun i fd hh => by
          have e1 := hit_none hh HQ.out
          subst e1
          exact ⟨rfl, rfl⟩) hbf
end Go.Proofs.Ybulkexnoq
