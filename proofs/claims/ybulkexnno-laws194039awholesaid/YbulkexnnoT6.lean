import Derived.Test.YbulkexnnoT7
namespace Go.Proofs.Ybulkexnno
open Go.RowKit
set_option linter.unusedVariables false
variable {κ : Nat → Int} {π : Nat → Bool} {M a u AT CT C A : Nat} {Ab Rb : Nat → Nat} {Qb : Nat → Nat → Nat}

set_option maxHeartbeats 2000000 in
set_option maxRecDepth 100000 in
theorem t6 (w0 W : World) (L : Nat → Nat) (Pb Sb Sc : Nat → Nat) (PB CB RB N CC AC ca nl cl cq gb : Nat) (pl pq : Option Addr) (gv : Value) (hb : Below w0.heap.size w0 W)
    (hp : Pool κ π PB N Pb W) (hc : W.rowIs CB 5 N (fun i => .int .u8 (κ (Pb i)))) (hr : W.rowIs RB 4 N (fun i => .bool (π (Pb i))))
    (hl : Laid κ π M a u AT CT C A Ab Rb Qb W) (hs : Copies CC C A Sb Sc Qb W) (bN : N ≤ 257) (bC : C ≤ 256) (bA : A ≤ 256) (bl : nl ≤ 4096) (hL : ∀ j, j < nl → L j < C)
    (h29 : Sees W pl nl (fun j => .int .i64 (L j))) (h32 : Sees W pq nl (fun j => .int .i64 (L j))) (h33 : ∀ i, i < A → W.cell? ⟨AC, i, none⟩ = some (.pointer (some ⟨Ab i, 0, none⟩)))
    (h35 : W.ownsRow gb 3 1 gv (kept (gcount κ π u A Ab Qb L) (fun j => L j) nl).length ((kept (gcount κ π u A Ab Qb L) (fun j => L j) nl).map (Value.int .i64))) (h35n : nl = 0 → gv = .slice none 0 0)
    (u0 u1 u2 u3 u4 u5 u6 u7 u8 u9 u10 u13 u14 u17 u18 u20 u21 u22 u24 u25 u26 u27 u28 u30 u31 u36 u37 u38 u39 u40 u41 u42 u43 u44 u45 u46 u47 u48 u49 u50 u51 u52 u53 u54 u55 u56 u57 u58 u59 u60 u61 u62 u63 u64 u65 u66 u67 u68 u69 u70 u71 u72 u73 u74 u75 u76 u77 u78 u79 u80 u81 u82 u83 u84 u85 u86 u87 u88 u89 u90 u91 u92 u93 u94 u95 u96 u97 u98 u99 u100 u101 u102 u103 u104 u105 u106 u107 u108 u109 u110 u111 u112 u113 u114 u115 u116 u117 u118 u119 u120 u121 u122 u123 u124 u125 u126 u127 u128 u129 u130 u131 u132 u133 u134 u135 u136 u137 u138 u139 u140 u141 u142 u143 u144 u145 u146 u147 u148 u149 u150 u151 u152 u153 u154 u155 u156 u157 u158 u159 u160 u161 u162 u163 u164 u165 u166 u167 u168 u169 u170 u171 u172 u173 u174 u175 u176 u177 u178 u179 u180 u181 u182 u183 u184 u185 u186 u187 u188 u189 u190 u191 u192 u193 u194 u195 u196 u197 u198 u199 u200 u201 u202 u203 u204 u205 u206 u207 u208 u209 u210 u211 u212 u213 u214 u215 u216 u217 u218 u219 u220 u221 u222 u223 u224 u225 u226 u227 u228 u229 u230 u231 u232 u233 u234 u235 u236 u237 u238 u239 u240 u241 u242 u243 u244 u245 u246 u247 u248 u249 u250 u251 u252 u253 u254 u255 u256 u257 u258 u259 u260 u261 u262 u263 u264 u265 u266 u267 u268 u269 u270 u271 u272 u273 u274 u275 u276 u277 u278 u279 u280 u281 u282 u283 u284 u285 u286 u287 u288 u289 u290 u291 u292 u293 u294 u295 u296 u297 u298 u299 u300 u301 u302 u303 u304 u305 u306 u307 u308 u309 u310 u311 u312 u313 u314 u315 u316 u317 u318 u319 u320 u321 u322 u323 u324 u325 u326 u327 u328 u329 u330 u331 u332 u333 u334 u335 u336 u337 u338 u339 u340 u341 u342 u343 u344 u345 u346 u347 u348 u349 u350 u351 u352 u353 u354 u355 u356 u357 u358 u359 u360 u361 u362 u363 u364 u365 u366 u367 u368 u369 u370 u371 u372 u373 u374 u375 u376 u377 u378 u379 u380 u381 u382 u383 u384 : Value) :
    Code.wp Yba.prog (dropTo 54 (Yba.f3.body.getD .skip)) (bodyPost Yba.prog Yba.f3 fun e w' => e = .returned (.bool true) ∧ Below w0.heap.size w0 w')
      ⟨#[u0, u1, u2, u3, u4, u5, u6, u7, u8, u9, u10, .pointer (some ⟨u, 0, none⟩), .slice (some ⟨PB, 0, none⟩) N N, u13, u14, .slice (some ⟨CB, 0, none⟩) N N, .slice (some ⟨RB, 0, none⟩) N N, u17, u18, .slice (some ⟨AT, 0, none⟩) A A, u20, u21, u22, .slice (some ⟨CC, 0, none⟩) C C, u24, u25, u26, u27, u28, .slice pl nl cl, u30, u31, .slice pq nl cq, .slice (some ⟨AC, 0, none⟩) A ca, .pointer (some ⟨M, 0, none⟩), gv, u36, u37, u38, u39, u40, u41, u42, u43, u44, u45, u46, u47, u48, u49, u50, u51, u52, u53, u54, u55, u56, u57, u58, u59, u60, u61, u62, u63, u64, u65, u66, u67, u68, u69, u70, u71, u72, u73, u74, u75, u76, u77, u78, u79, u80, u81, u82, u83, u84, u85, u86, u87, u88, u89, u90, u91, u92, u93, u94, u95, u96, u97, u98, u99, u100, u101, u102, u103, u104, u105, u106, u107, u108, u109, u110, u111, u112, u113, u114, u115, u116, u117, u118, u119, u120, u121, u122, u123, u124, u125, u126, u127, u128, u129, u130, u131, u132, u133, u134, u135, u136, u137, u138, u139, u140, u141, u142, u143, u144, u145, u146, u147, u148, u149, u150, u151, u152, u153, u154, u155, u156, u157, u158, u159, u160, u161, u162, u163, u164, u165, u166, u167, u168, u169, u170, u171, u172, u173, u174, u175, u176, u177, u178, u179, u180, u181, u182, u183, u184, u185, u186, u187, u188, u189, u190, u191, u192, u193, u194, u195, u196, u197, u198, u199, u200, u201, u202, u203, u204, u205, u206, u207, u208, u209, u210, u211, u212, u213, u214, u215, u216, u217, u218, u219, u220, u221, u222, u223, u224, u225, u226, u227, u228, u229, u230, u231, u232, u233, u234, u235, u236, u237, u238, u239, u240, u241, u242, u243, u244, u245, u246, u247, u248, u249, u250, u251, u252, u253, u254, u255, u256, u257, u258, u259, u260, u261, u262, u263, u264, u265, u266, u267, u268, u269, u270, u271, u272, u273, u274, u275, u276, u277, u278, u279, u280, u281, u282, u283, u284, u285, u286, u287, u288, u289, u290, u291, u292, u293, u294, u295, u296, u297, u298, u299, u300, u301, u302, u303, u304, u305, u306, u307, u308, u309, u310, u311, u312, u313, u314, u315, u316, u317, u318, u319, u320, u321, u322, u323, u324, u325, u326, u327, u328, u329, u330, u331, u332, u333, u334, u335, u336, u337, u338, u339, u340, u341, u342, u343, u344, u345, u346, u347, u348, u349, u350, u351, u352, u353, u354, u355, u356, u357, u358, u359, u360, u361, u362, u363, u364, u365, u366, u367, u368, u369, u370, u371, u372, u373, u374, u375, u376, u377, u378, u379, u380, u381, u382, u383, u384], []⟩ W := by
  conv => arg 2; whnf
  have mk := run_make_row' (P := Yba.prog) 37 3 (.int .i64 0) 8 Yba.underlying37 Yba.info3 rfl .i64 .i64 nl (by omega) (by omega)
  go_wp2_with fail
  go_loopw [37, 242] (fun bv i wr => ∃ k : Nat, k ≤ nl ∧ i = .int .i64 k ∧ bv = .int .i64 (bst (gcount κ π u A Ab Qb L) k) ∧ Below W.heap.size W wr ∧ W.heap.size < wr.heap.size ∧
      wr.rowIs W.heap.size 3 nl (fun j => if j < k then .int .i64 ((gcount κ π u A Ab Qb L) j) else .int .i64 0))
    (fun _ i _ => nl - (intOf i).toNat)
  case atStart => exact ⟨0, Nat.zero_le _, rfl, rfl, (Below.refl _ _).alloc (Nat.le_refl _) _, by simp, (World.rowIs_made W (.int .i64 0) nl 3).congr (fun i _ => by simp)⟩
  case round =>
    rename_i Kx hKx
    have HK := show Hid _ from hKx
    clear hKx
    obtain ⟨wo, rfl⟩ : ∃ wo : World, wo = wr := ⟨_, rfl⟩
    obtain ⟨k, hk, rfl, rfl, hbel, hsz, hrow⟩ := hrel
    have H35 := show Hid _ from h35n
    have HL := show Hid (∀ j, j < nl → L j < C) from hL
    have H33 := show Hid (∀ i, i < A → W.cell? ⟨AC, i, none⟩ = some (.pointer (some ⟨Ab i, 0, none⟩))) from h33
    have HZ := show Hid (W.heap.size < wo.heap.size) from hsz
    clear h35n hL h33 hsz
    by_cases hlt : k < nl
    · rcases h29 with h29 | ⟨b, o, rfl, h29⟩
      · omega
      have hW := hl.later hbel
      have hS := hs.later hbel
      have g1 : wo.cell? ⟨b, o + k, none⟩ = some (.int .i64 (L k)) := cell_later hbel (h29 k hlt)
      have hLk := HL.out k hlt
      have gs : wo.cell? ⟨W.heap.size, k, none⟩ = some (.int .i64 0) := by rw [hrow.cell hlt]; simp
      have gf : wo.frozen? ⟨W.heap.size, k, none⟩ = false := hrow.frozen k
      have H29 := show Hid _ from h29
      clear h29
      obtain ⟨x, hx⟩ : ∃ x, x = L k := ⟨_, rfl⟩
      have HX : Hid (x = L k) := hx
      rw [← hx] at g1 hLk
      clear hx
      go_wp2_with fail
      go_loopg [40, 249] A (fun g s40 s249 wx => ∃ i : Nat, i ≤ A ∧ A - i ≤ g ∧ s249 = .int .i64 i ∧ s40 = .int .i64 (cnt (yes κ π u Ab (Qb x)) i) ∧ wx.heap = wo.heap ∧ Below W.heap.size W wx)
      case atStart => exact ⟨0, Nat.zero_le _, by omega, rfl, rfl, rfl, hbel⟩
      case round =>
        obtain ⟨i, hiA, hg, rfl, rfl, hh, hbx⟩ := hrel
        have HH : Hid (wr.heap = wo.heap) := hh
        clear hh
        have hcl := cnt_le (yes κ π u Ab (Qb x)) i
        by_cases hlt2 : i < A
        · have q1 := (cell_heap HH.out _).trans (hW.arg i hlt2)
          have q2 := (cell_heap HH.out _).trans (hS.cell x hLk)
          have q3 := (cell_heap HH.out _).trans (hS.par x i hLk hlt2)
          have hct := fun (V : World) (hV : V.heap = wo.heap) => counts_any κ π (Ab i) (Qb x i) u V ((hW.ta i hlt2).heap hV) ((hW.tp x i hLk hlt2).heap hV) (hW.tu.heap hV)
          have HS : Hid (cnt (yes κ π u Ab (Qb x)) (i + 1) = if yes κ π u Ab (Qb x) i then cnt (yes κ π u Ab (Qb x)) i + 1 else cnt (yes κ π u Ab (Qb x)) i) := rfl
          have hy : (!decide (Ab i = u) && tst κ π (Ab i) (Qb x i)) = yes κ π u Ab (Qb x) i := rfl
          rw [hy] at hct
          clear hy
          generalize yes κ π u Ab (Qb x) i = t at hct HS
          have hx1 : (x : Int) < (C : Int) := by omega
          go_wp2_with fail
          go_quiet ((go_at_call 7; go_must (exact Calls.quiet_of (hct _ HH.out))))
          cases t
          · go_wp2_with fail
            go_roundg (A - (i + 1))
            case measure => omega
            case rel => exact ⟨i + 1, by omega, by omega, by go_num, by rw [HS.out]; rfl, HH.out, below_drewN hbx _⟩
          · go_wp2_with fail
            go_roundg (A - (i + 1))
            case measure => omega
            case rel => exact ⟨i + 1, by omega, by omega, by go_num, by rw [HS.out]; go_num, HH.out, below_drewN hbx _⟩
        · obtain rfl : A = i := by omega
          have gs2 := (cell_heap HH.out _).trans gs
          have gf2 : wr.frozen? ⟨W.heap.size, k, none⟩ = false := by simpa [World.frozen?, HH.out] using gf
          clear gs gf g1
          have hgk : (gcount κ π u A Ab Qb L) k = (cnt (yes κ π u Ab (Qb x)) A : Nat) := by rw [HX.out]; rfl
          have hbs : bst (gcount κ π u A Ab Qb L) (k + 1) = if bst (gcount κ π u A Ab Qb L) k < (gcount κ π u A Ab Qb L) k then (gcount κ π u A Ab Qb L) k else bst (gcount κ π u A Ab Qb L) k := rfl
          have hlo := bst_lo (gcount κ π u A Ab Qb L) k
          have hhi := bst_hi (gcount κ π u A Ab Qb L) A (by omega) (fun j => by have := cnt_le (yes κ π u Ab (Qb (L j))) A; simp only [gcount]; omega) k
          rw [hgk] at hbs
          have hrow2 : (wr.setCell ⟨W.heap.size, k, none⟩ (.int .i64 (cnt (yes κ π u Ab (Qb x)) A : Nat))).rowIs W.heap.size 3 nl (fun j => if j < k + 1 then .int .i64 ((gcount κ π u A Ab Qb L) j) else .int .i64 0) := by
            refine ((hrow.of_block (by rw [HH.out])).set k _).congr (fun j _ => ?_)
            by_cases e : j = k
            · subst e; simp [hgk]
            · by_cases l : j < k
              · simp [e, l, Nat.lt_succ_of_lt l]
              · have : ¬ j < k + 1 := by omega
                simp [e, l, this]
          have hb2 : Below W.heap.size W (wr.setCell ⟨W.heap.size, k, none⟩ (.int .i64 (cnt (yes κ π u Ab (Qb x)) A : Nat))) := hbx.setCell (Nat.le_refl _) _
          have hz2 : W.heap.size < (wr.setCell ⟨W.heap.size, k, none⟩ (.int .i64 (cnt (yes κ π u Ab (Qb x)) A : Nat))).heap.size := by have := HZ.out; simp [HH.out]; omega
          generalize bst (gcount κ π u A Ab Qb L) k = B0 at *
          generalize cnt (yes κ π u Ab (Qb x)) A = N0 at *
          have HB := show Hid _ from hbs
          have HZ2 := show Hid _ from hz2
          clear hbs hgk hz2
          by_cases c1 : B0 < N0
          · go_wp2_with fail
            go_roundw
            case rel => exact ⟨k + 1, by omega, by go_num, by rw [HB.out, if_pos c1], hb2, HZ2.out, hrow2⟩
            case measure => simp [intOf]; omega
          · go_wp2_with fail
            go_roundw
            case rel => exact ⟨k + 1, by omega, by go_num, by rw [HB.out, if_neg c1], hb2, HZ2.out, hrow2⟩
            case measure => simp [intOf]; omega
    · obtain rfl : nl = k := by omega
      go_wp2_with fail
      refine HK.out _ _ ?_
      apply t7 (M := M) (a := a) (u := u) (AT := AT) (CT := CT) (C := C) (A := A) (Ab := Ab) (Rb := Rb) (Qb := Qb) w0 wo L Pb Sb Sc PB CB RB N CC AC ca W.heap.size nl cl cq gb pl pq gv
        (below_next hb hbel) (hp.later hbel) (rowIs_later hc hbel) (rowIs_later hr hbel) (hl.later hbel) (hs.later hbel) bN bC bA bl (h29.later hbel) (h32.later hbel) (fun i hi => cell_later hbel (H33.out i hi)) (own_later h35 hbel) H35.out
        (hrow.congr (fun i hi => by simp [hi]))
end Go.Proofs.Ybulkexnno
