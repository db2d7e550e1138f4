import Derived.Test.YbulkexnnoT7b
namespace Go.Proofs.Ybulkexnno
open Go.RowKit
set_option linter.unusedVariables false
variable {κ : Nat → Int} {π : Nat → Bool} {M a u AT CT C A : Nat} {Ab Rb : Nat → Nat} {Qb : Nat → Nat → Nat}

theorem own_sees {w : World} {base : Nat} {v : Value} {l : List Int} (h : w.ownsRow base 3 1 v l.length (l.map (Value.int .i64))) :
    ∃ p c, v = .slice p l.length c ∧ Sees w p l.length (fun i => .int .i64 (l.getD i 0)) := by
  rcases id h.2 with ⟨rfl, h0⟩ | ⟨g, cap, cur, rfl, _⟩
  · rw [h0]; exact ⟨none, 0, rfl, .inl rfl⟩
  · refine ⟨_, cap, rfl, .inr ⟨g, 0, rfl, fun i hi => ?_⟩⟩
    have := h.cellAt i (by omega)
    rw [show (0 + i) = i by omega, this]
    simp [hi]

theorem own_later {w w' : World} {base e size n : Nat} {v : Value} {xs : List Value} (h : w.ownsRow base e size v n xs) (hb : Below w.heap.size w w') : w'.ownsRow base e size v n xs := by
  refine ⟨h.1, ?_⟩
  rcases id h.2 with h1 | ⟨g, cap, cur, e1, e2, e3, e4⟩
  · exact .inl h1
  · refine .inr ⟨g, cap, cur, e1, e2, ?_, e4⟩
    have hl : g < w.heap.size := by
      rcases Nat.lt_or_ge g w.heap.size with h' | h'
      · exact h'
      · rw [Array.getElem?_eq_none h'] at e3; cases e3
    rw [hb.block g hl]; exact e3

set_option maxHeartbeats 2000000 in
set_option maxRecDepth 100000 in
theorem t7 (w0 W : World) (L : Nat → Nat) (Pb Sb Sc : Nat → Nat) (PB CB RB N CC AC ca KB nl cl cq gb : Nat) (pl pq : Option Addr) (gv : Value) (hb : Below w0.heap.size w0 W)
    (hp : Pool κ π PB N Pb W) (hc : W.rowIs CB 5 N (fun i => .int .u8 (κ (Pb i)))) (hr : W.rowIs RB 4 N (fun i => .bool (π (Pb i))))
    (hl : Laid κ π M a u AT CT C A Ab Rb Qb W) (hs : Copies CC C A Sb Sc Qb W) (bN : N ≤ 257) (bC : C ≤ 256) (bA : A ≤ 256) (bl : nl ≤ 4096)
    (h29 : Sees W pl nl (fun j => .int .i64 (L j))) (h32 : Sees W pq nl (fun j => .int .i64 (L j))) (h33 : ∀ i, i < A → W.cell? ⟨AC, i, none⟩ = some (.pointer (some ⟨Ab i, 0, none⟩)))
    (h35 : W.ownsRow gb 3 1 gv (kept (gcount κ π u A Ab Qb L) (fun j => L j) nl).length ((kept (gcount κ π u A Ab Qb L) (fun j => L j) nl).map (Value.int .i64))) (h35n : nl = 0 → gv = .slice none 0 0)
    (h36 : W.rowIs KB 3 nl (fun j => .int .i64 (gcount κ π u A Ab Qb L j)))
    (u0 u1 u2 u3 u4 u5 u6 u7 u8 u9 u10 u13 u14 u17 u18 u19 u20 u21 u22 u24 u25 u26 u27 u28 u30 u31 u38 u39 u40 u41 u42 u43 u44 u45 u46 u47 u48 u49 u50 u51 u52 u53 u54 u55 u56 u57 u58 u59 u60 u61 u62 u63 u64 u65 u66 u67 u68 u69 u70 u71 u72 u73 u74 u75 u76 u77 u78 u79 u80 u81 u82 u83 u84 u85 u86 u87 u88 u89 u90 u91 u92 u93 u94 u95 u96 u97 u98 u99 u100 u101 u102 u103 u104 u105 u106 u107 u108 u109 u110 u111 u112 u113 u114 u115 u116 u117 u118 u119 u120 u121 u122 u123 u124 u125 u126 u127 u128 u129 u130 u131 u132 u133 u134 u135 u136 u137 u138 u139 u140 u141 u142 u143 u144 u145 u146 u147 u148 u149 u150 u151 u152 u153 u154 u155 u156 u157 u158 u159 u160 u161 u162 u163 u164 u165 u166 u167 u168 u169 u170 u171 u172 u173 u174 u175 u176 u177 u178 u179 u180 u181 u182 u183 u184 u185 u186 u187 u188 u189 u190 u191 u192 u193 u194 u195 u196 u197 u198 u199 u200 u201 u202 u203 u204 u205 u206 u207 u208 u209 u210 u211 u212 u213 u214 u215 u216 u217 u218 u219 u220 u221 u222 u223 u224 u225 u226 u227 u228 u229 u230 u231 u232 u233 u234 u235 u236 u237 u238 u239 u240 u241 u242 u243 u244 u245 u246 u247 u248 u249 u250 u251 u252 u253 u254 u255 u256 u257 u258 u259 u260 u261 u262 u263 u264 u265 u266 u267 u268 u269 u270 u271 u272 u273 u274 u275 u276 u277 u278 u279 u280 u281 u282 u283 u284 u285 u286 u287 u288 u289 u290 u291 u292 u293 u294 u295 u296 u297 u298 u299 u300 u301 u302 u303 u304 u305 u306 u307 u308 u309 u310 u311 u312 u313 u314 u315 u316 u317 u318 u319 u320 u321 u322 u323 u324 u325 u326 u327 u328 u329 u330 u331 u332 u333 u334 u335 u336 u337 u338 u339 u340 u341 u342 u343 u344 u345 u346 u347 u348 u349 u350 u351 u352 u353 u354 u355 u356 u357 u358 u359 u360 u361 u362 u363 u364 u365 u366 u367 u368 u369 u370 u371 u372 u373 u374 u375 u376 u377 u378 u379 u380 u381 u382 u383 u384 : Value) :
    Code.wp Yba.prog (dropTo 70 (Yba.f3.body.getD .skip)) (bodyPost Yba.prog Yba.f3 fun e w' => e = .returned (.bool true) ∧ Below w0.heap.size w0 w')
      ⟨#[u0, u1, u2, u3, u4, u5, u6, u7, u8, u9, u10, .pointer (some ⟨u, 0, none⟩), .slice (some ⟨PB, 0, none⟩) N N, u13, u14, .slice (some ⟨CB, 0, none⟩) N N, .slice (some ⟨RB, 0, none⟩) N N, u17, u18, u19, u20, u21, u22, .slice (some ⟨CC, 0, none⟩) C C, u24, u25, u26, u27, u28, .slice pl nl cl, u30, u31, .slice pq nl cq, .slice (some ⟨AC, 0, none⟩) A ca, .pointer (some ⟨M, 0, none⟩), gv, .slice (some ⟨KB, 0, none⟩) nl nl, .int .i64 (bst (gcount κ π u A Ab Qb L) nl), u38, u39, u40, u41, u42, u43, u44, u45, u46, u47, u48, u49, u50, u51, u52, u53, u54, u55, u56, u57, u58, u59, u60, u61, u62, u63, u64, u65, u66, u67, u68, u69, u70, u71, u72, u73, u74, u75, u76, u77, u78, u79, u80, u81, u82, u83, u84, u85, u86, u87, u88, u89, u90, u91, u92, u93, u94, u95, u96, u97, u98, u99, u100, u101, u102, u103, u104, u105, u106, u107, u108, u109, u110, u111, u112, u113, u114, u115, u116, u117, u118, u119, u120, u121, u122, u123, u124, u125, u126, u127, u128, u129, u130, u131, u132, u133, u134, u135, u136, u137, u138, u139, u140, u141, u142, u143, u144, u145, u146, u147, u148, u149, u150, u151, u152, u153, u154, u155, u156, u157, u158, u159, u160, u161, u162, u163, u164, u165, u166, u167, u168, u169, u170, u171, u172, u173, u174, u175, u176, u177, u178, u179, u180, u181, u182, u183, u184, u185, u186, u187, u188, u189, u190, u191, u192, u193, u194, u195, u196, u197, u198, u199, u200, u201, u202, u203, u204, u205, u206, u207, u208, u209, u210, u211, u212, u213, u214, u215, u216, u217, u218, u219, u220, u221, u222, u223, u224, u225, u226, u227, u228, u229, u230, u231, u232, u233, u234, u235, u236, u237, u238, u239, u240, u241, u242, u243, u244, u245, u246, u247, u248, u249, u250, u251, u252, u253, u254, u255, u256, u257, u258, u259, u260, u261, u262, u263, u264, u265, u266, u267, u268, u269, u270, u271, u272, u273, u274, u275, u276, u277, u278, u279, u280, u281, u282, u283, u284, u285, u286, u287, u288, u289, u290, u291, u292, u293, u294, u295, u296, u297, u298, u299, u300, u301, u302, u303, u304, u305, u306, u307, u308, u309, u310, u311, u312, u313, u314, u315, u316, u317, u318, u319, u320, u321, u322, u323, u324, u325, u326, u327, u328, u329, u330, u331, u332, u333, u334, u335, u336, u337, u338, u339, u340, u341, u342, u343, u344, u345, u346, u347, u348, u349, u350, u351, u352, u353, u354, u355, u356, u357, u358, u359, u360, u361, u362, u363, u364, u365, u366, u367, u368, u369, u370, u371, u372, u373, u374, u375, u376, u377, u378, u379, u380, u381, u382, u383, u384], []⟩ W := by
  conv => arg 2; whnf
  obtain ⟨i0, hi, hz0, hz1, hz2⟩ := info_parts Yba.info3
  go_wp2_with fail
  go_loopw [42, 279] (fun v i wr => ∃ k : Nat, k ≤ nl ∧ i = .int .i64 k ∧ Below W.heap.size W wr ∧
      wr.ownsRow W.heap.size 3 1 v (wnt (gcount κ π u A Ab Qb L) (fun j => L j) (bst (gcount κ π u A Ab Qb L) nl) k).length ((wnt (gcount κ π u A Ab Qb L) (fun j => L j) (bst (gcount κ π u A Ab Qb L) nl) k).map (Value.int .i64)))
    (fun _ i _ => nl - (intOf i).toNat)
  case atStart => exact ⟨0, Nat.zero_le _, rfl, Below.refl _ _, World.ownsRow_nil _ _ _ _⟩
  case round =>
    rename_i Kx hKx
    have HK := show Hid _ from hKx
    clear hKx
    obtain ⟨k, hk, rfl, hbel, hown⟩ := hrel
    by_cases hlt : k < nl
    · rcases h29 with h29 | ⟨b, o, rfl, h29⟩
      · omega
      have g1 : wr.cell? ⟨b, o + k, none⟩ = some (.int .i64 (L k)) := cell_later hbel (h29 k hlt)
      have g2 := cell_later hbel (h36.cell hlt)
      have H29 := show Hid _ from h29
      have H35 := show Hid _ from h35n
      clear h29 h35n
      have hws : wnt (gcount κ π u A Ab Qb L) (fun j => L j) (bst (gcount κ π u A Ab Qb L) nl) (k + 1) = if gcount κ π u A Ab Qb L k = bst (gcount κ π u A Ab Qb L) nl then wnt (gcount κ π u A Ab Qb L) (fun j => L j) (bst (gcount κ π u A Ab Qb L) nl) k ++ [(L k : Int)] else wnt (gcount κ π u A Ab Qb L) (fun j => L j) (bst (gcount κ π u A Ab Qb L) nl) k := rfl
      have hln := wnt_len (gcount κ π u A Ab Qb L) (fun j => L j) (bst (gcount κ π u A Ab Qb L) nl) k
      have HW := show Hid _ from hws
      clear hws
      generalize hK0 : wnt (gcount κ π u A Ab Qb L) (fun j => L j) (bst (gcount κ π u A Ab Qb L) nl) k = K0 at hown hln HW
      clear hK0
      by_cases hq : gcount κ π u A Ab Qb L k = bst (gcount κ π u A Ab Qb L) nl
      · have hq' : (gcount κ π u A Ab Qb L k == bst (gcount κ π u A Ab Qb L) nl) = true := beq_iff_eq.2 hq
        have HQ := show Hid _ from hq
        clear hq
        go_wp2_with (at_builtin; refine wpList_append_own _ rfl _ _ 37 rfl W.heap.size 3 i0 (.int .i64 0) 1 8 Yba.underlying37 hi hz0 hz1 hz2 rfl (by decide) u42 K0.length (K0.map (Value.int .i64)) rfl ?qown ⟨wr.heap.size, 0, none⟩ 1 1 [.int .i64 (L k)] rfl rfl ?qc1 ?qc2 ?qc3 ?qc4 ?qc5 ?_)
        case qown => exact hown.alloc _
        case qc2 => first | rfl | (intro u hu; simp at hu; subst hu; rfl)
        case qc3 => simp only [maxLen]; omega
        case qc4 => omega
        case qc5 => have := hbel.size; simp; omega
        intro v' w1 hown1 hgrow hnn
        have hb1 : Below W.heap.size W w1 := (hbel.alloc hbel.size _).grown hgrow (by have := hbel.size; simp; omega) (fun k hk => ownBlock_ge hown hk)
        have hown2 : w1.ownsRow W.heap.size 3 1 v' (K0 ++ [(L k : Int)]).length ((K0 ++ [(L k : Int)]).map (Value.int .i64)) := by simpa using hown1
        clear hown1 hgrow hown hnn hbel
        go_wp2_with fail
        go_roundw
        case rel =>
          refine ⟨k + 1, by omega, by go_num, hb1, ?_⟩
          rw [HW.out, if_pos HQ.out]
          exact hown2
        case measure => simp [intOf]; omega
      · have hq' : (gcount κ π u A Ab Qb L k == bst (gcount κ π u A Ab Qb L) nl) = false := beq_eq_false_iff_ne.2 hq
        have HQ := show Hid _ from hq
        clear hq
        go_wp2_with fail
        go_roundw
        case rel =>
          refine ⟨k + 1, by omega, by go_num, hbel, ?_⟩
          rw [HW.out, if_neg HQ.out]
          exact hown
        case measure => simp [intOf]; omega
    · obtain rfl : nl = k := by omega
      rw [← kept_wnt] at hown
      have hkl := kept_len (gcount κ π u A Ab Qb L) (fun j => L j) nl
      obtain ⟨pg, cg, rfl, hsg⟩ := own_sees (own_later h35 hbel)
      obtain ⟨pw, cw, rfl, hsw⟩ := own_sees hown
      go_wp2_with fail
      refine HK.out _ _ ?_
      apply t7b (M := M) (a := a) (u := u) (AT := AT) (CT := CT) (C := C) (A := A) (Ab := Ab) (Rb := Rb) (Qb := Qb) w0 wr L (fun i => (kept (gcount κ π u A Ab Qb L) (fun j => L j) nl).getD i 0) Pb Sb Sc PB CB RB N CC AC ca nl cl cq _ cg cw pl pq pg pw
        (below_next hb hbel) (hp.later hbel) (rowIs_later hc hbel) (rowIs_later hr hbel) (hl.later hbel) (hs.later hbel) bN bC bA bl (by omega) (h29.later hbel) (h32.later hbel) (fun i hi => cell_later hbel (h33 i hi)) hsg hsw
        (fun h => by have := h35n h; injection this)
end Go.Proofs.Ybulkexnno
