import Derived.Test.YbulkexnnoT8
namespace Go.Proofs.Ybulkexnno
open Go.RowKit
set_option linter.unusedVariables false
variable {κ : Nat → Int} {π : Nat → Bool} {M a u AT CT C A : Nat} {Ab Rb : Nat → Nat} {Qb : Nat → Nat → Nat}

set_option maxHeartbeats 2000000 in
set_option maxRecDepth 100000 in
theorem t7b (w0 W : World) (L : Nat → Nat) (F : Nat → Int) (Pb Sb Sc : Nat → Nat) (PB CB RB N CC AC ca nl cl cq ng cg cw : Nat) (pl pq pg pw : Option Addr) (hb : Below w0.heap.size w0 W)
    (hp : Pool κ π PB N Pb W) (hc : W.rowIs CB 5 N (fun i => .int .u8 (κ (Pb i)))) (hr : W.rowIs RB 4 N (fun i => .bool (π (Pb i))))
    (hl : Laid κ π M a u AT CT C A Ab Rb Qb W) (hs : Copies CC C A Sb Sc Qb W) (bN : N ≤ 257) (bC : C ≤ 256) (bA : A ≤ 256) (bl : nl ≤ 4096) (bg : ng ≤ 4096)
    (h29 : Sees W pl nl (fun j => .int .i64 (L j))) (h32 : Sees W pq nl (fun j => .int .i64 (L j))) (h33 : ∀ i, i < A → W.cell? ⟨AC, i, none⟩ = some (.pointer (some ⟨Ab i, 0, none⟩)))
    (h35 : Sees W pg ng (fun j => .int .i64 (F j))) (h42 : Sees W pw ng (fun j => .int .i64 (F j))) (h35n : nl = 0 → pg = none)
    (u0 u1 u2 u3 u4 u5 u6 u7 u8 u9 u10 u13 u14 u17 u18 u19 u20 u21 u22 u24 u25 u26 u27 u28 u30 u31 u36 u37 u38 u39 u40 u41 u43 u44 u45 u46 u47 u48 u49 u50 u51 u52 u53 u54 u55 u56 u57 u58 u59 u60 u61 u62 u63 u64 u65 u66 u67 u68 u69 u70 u71 u72 u73 u74 u75 u76 u77 u78 u79 u80 u81 u82 u83 u84 u85 u86 u87 u88 u89 u90 u91 u92 u93 u94 u95 u96 u97 u98 u99 u100 u101 u102 u103 u104 u105 u106 u107 u108 u109 u110 u111 u112 u113 u114 u115 u116 u117 u118 u119 u120 u121 u122 u123 u124 u125 u126 u127 u128 u129 u130 u131 u132 u133 u134 u135 u136 u137 u138 u139 u140 u141 u142 u143 u144 u145 u146 u147 u148 u149 u150 u151 u152 u153 u154 u155 u156 u157 u158 u159 u160 u161 u162 u163 u164 u165 u166 u167 u168 u169 u170 u171 u172 u173 u174 u175 u176 u177 u178 u179 u180 u181 u182 u183 u184 u185 u186 u187 u188 u189 u190 u191 u192 u193 u194 u195 u196 u197 u198 u199 u200 u201 u202 u203 u204 u205 u206 u207 u208 u209 u210 u211 u212 u213 u214 u215 u216 u217 u218 u219 u220 u221 u222 u223 u224 u225 u226 u227 u228 u229 u230 u231 u232 u233 u234 u235 u236 u237 u238 u239 u240 u241 u242 u243 u244 u245 u246 u247 u248 u249 u250 u251 u252 u253 u254 u255 u256 u257 u258 u259 u260 u261 u262 u263 u264 u265 u266 u267 u268 u269 u270 u271 u272 u273 u274 u275 u276 u277 u278 u279 u280 u281 u282 u283 u284 u285 u286 u287 u288 u289 u290 u291 u292 u293 u294 u295 u296 u297 u298 u299 u300 u301 u302 u303 u304 u305 u306 u307 u308 u309 u310 u311 u312 u313 u314 u315 u316 u317 u318 u319 u320 u321 u322 u323 u324 u325 u326 u327 u328 u329 u330 u331 u332 u333 u334 u335 u336 u337 u338 u339 u340 u341 u342 u343 u344 u345 u346 u347 u348 u349 u350 u351 u352 u353 u354 u355 u356 u357 u358 u359 u360 u361 u362 u363 u364 u365 u366 u367 u368 u369 u370 u371 u372 u373 u374 u375 u376 u377 u378 u379 u380 u381 u382 u383 u384 : Value) :
    Code.wp Yba.prog (dropTo 77 (Yba.f3.body.getD .skip)) (bodyPost Yba.prog Yba.f3 fun e w' => e = .returned (.bool true) ∧ Below w0.heap.size w0 w')
      ⟨#[u0, u1, u2, u3, u4, u5, u6, u7, u8, u9, u10, .pointer (some ⟨u, 0, none⟩), .slice (some ⟨PB, 0, none⟩) N N, u13, u14, .slice (some ⟨CB, 0, none⟩) N N, .slice (some ⟨RB, 0, none⟩) N N, u17, u18, u19, u20, u21, u22, .slice (some ⟨CC, 0, none⟩) C C, u24, u25, u26, u27, u28, .slice pl nl cl, u30, u31, .slice pq nl cq, .slice (some ⟨AC, 0, none⟩) A ca, .pointer (some ⟨M, 0, none⟩), .slice pg ng cg, u36, u37, u38, u39, u40, u41, .slice pw ng cw, u43, u44, u45, u46, u47, u48, u49, u50, u51, u52, u53, u54, u55, u56, u57, u58, u59, u60, u61, u62, u63, u64, u65, u66, u67, u68, u69, u70, u71, u72, u73, u74, u75, u76, u77, u78, u79, u80, u81, u82, u83, u84, u85, u86, u87, u88, u89, u90, u91, u92, u93, u94, u95, u96, u97, u98, u99, u100, u101, u102, u103, u104, u105, u106, u107, u108, u109, u110, u111, u112, u113, u114, u115, u116, u117, u118, u119, u120, u121, u122, u123, u124, u125, u126, u127, u128, u129, u130, u131, u132, u133, u134, u135, u136, u137, u138, u139, u140, u141, u142, u143, u144, u145, u146, u147, u148, u149, u150, u151, u152, u153, u154, u155, u156, u157, u158, u159, u160, u161, u162, u163, u164, u165, u166, u167, u168, u169, u170, u171, u172, u173, u174, u175, u176, u177, u178, u179, u180, u181, u182, u183, u184, u185, u186, u187, u188, u189, u190, u191, u192, u193, u194, u195, u196, u197, u198, u199, u200, u201, u202, u203, u204, u205, u206, u207, u208, u209, u210, u211, u212, u213, u214, u215, u216, u217, u218, u219, u220, u221, u222, u223, u224, u225, u226, u227, u228, u229, u230, u231, u232, u233, u234, u235, u236, u237, u238, u239, u240, u241, u242, u243, u244, u245, u246, u247, u248, u249, u250, u251, u252, u253, u254, u255, u256, u257, u258, u259, u260, u261, u262, u263, u264, u265, u266, u267, u268, u269, u270, u271, u272, u273, u274, u275, u276, u277, u278, u279, u280, u281, u282, u283, u284, u285, u286, u287, u288, u289, u290, u291, u292, u293, u294, u295, u296, u297, u298, u299, u300, u301, u302, u303, u304, u305, u306, u307, u308, u309, u310, u311, u312, u313, u314, u315, u316, u317, u318, u319, u320, u321, u322, u323, u324, u325, u326, u327, u328, u329, u330, u331, u332, u333, u334, u335, u336, u337, u338, u339, u340, u341, u342, u343, u344, u345, u346, u347, u348, u349, u350, u351, u352, u353, u354, u355, u356, u357, u358, u359, u360, u361, u362, u363, u364, u365, u366, u367, u368, u369, u370, u371, u372, u373, u374, u375, u376, u377, u378, u379, u380, u381, u382, u383, u384], []⟩ W := by
  conv => arg 2; whnf
  have m0 := hl.m0
  have m1 := hl.m1
  have m2 := hl.m2
  have a1 := hl.a1
  have hne0 := ptr_neq hl.tu hl.tu W rfl
  have hne := fun n : Nat => ptr_neq hl.tu hl.tu (W.drewN n) rfl
  rw [decide_eq_true rfl] at hne0
  simp only [decide_true] at hne
  have heP := fun (V : World) (hV : V.heap = W.heap) => eq_ptrs (some ⟨AT, 0, none⟩) (some ⟨AC, 0, none⟩) A A ca Ab V (by omega) (fun i hi => ⟨_, _, (hl.ta i hi).heap hV⟩)
        (.inr ⟨_, _, rfl, fun i hi => by rw [cell_heap hV]; simpa using hl.arg i hi⟩) (.inr ⟨_, _, rfl, fun i hi => by rw [cell_heap hV]; simpa using h33 i hi⟩)
  have seeH : ∀ (V : World) (hV : V.heap = W.heap) (p : Option Addr) (n : Nat) (f : Nat → Value), Sees W p n f → Sees V p n f := by
    intro V hV p n f h
    rcases h with h | ⟨b, o, e, h⟩
    · exact .inl h
    · exact .inr ⟨b, o, e, fun i hi => (cell_heap hV _).trans (h i hi)⟩
  have heL := fun (V : World) (hV : V.heap = W.heap) => eq_ints pl pq nl cl cq (fun j => L j) V (by omega) (seeH V hV _ _ _ h29) (seeH V hV _ _ _ h32)
  have H33 := show Hid (∀ i, i < A → W.cell? ⟨AC, i, none⟩ = some (.pointer (some ⟨Ab i, 0, none⟩))) from h33
  have h8 := fun (V : World) (hV : V.heap = W.heap) (hbV : Below W.heap.size W V) => t8 (M := M) (a := a) (u := u) (AT := AT) (CT := CT) (C := C) (A := A) (Ab := Ab) (Rb := Rb) (Qb := Qb) w0 V Pb Sb Sc PB CB RB N CC (below_next hb hbV) (hp.later hbV) (rowIs_later hc hbV) (rowIs_later hr hbV) (hl.later hbV) (hs.later hbV) bN bC bA
  have H8 := show Hid _ from h8
  clear seeH h33 h8
  by_cases hz : nl = 0
  · subst hz
    obtain rfl := h35n rfl
    clear h35n
    have hgn : ∀ V : World, (binOp .neq 37 (.slice none ng cg) (.slice none 0 0)).run Yba.prog V = .ok (.bool false) V := fun _ => by kernel_rfl
    go_upto_region 82 with (fail)
    rename_i K1 hK1 K2 hK2
    have HK1 := show Hid _ from hK1
    clear hK1
    go_wp2_with fail
    refine (heP _ (by rfl)).mono ?_
    rintro e w' ⟨rfl, mm, rfl⟩
    dsimp only
    go_wp2_with fail
    refine (heL _ (by rfl)).mono ?_
    rintro e w' ⟨rfl, mm2, rfl⟩
    dsimp only
    go_wp2_with fail
    refine HK1.out _ _ ?_
    apply H8.out
    · rfl
    · exact ⟨rfl, rfl, rfl, Nat.le_refl _, fun _ _ => rfl⟩
  · clear h35n
    have hz' : ((nl : Int) == 0) = false := beq_eq_false_iff_ne.2 (by omega)
    go_wp2_with fail
    refine (eq_ints pg pw ng cg cw F W (by omega) h35 h42).mono ?_
    rintro e w' ⟨rfl, mg, rfl⟩
    dsimp only
    go_upto_region 82 with (fail)
    rename_i K1 hK1 K2 hK2
    have HK1 := show Hid _ from hK1
    clear hK1
    go_wp2_with fail
    refine (heP _ (by rfl)).mono ?_
    rintro e w' ⟨rfl, mm, rfl⟩
    dsimp only
    go_wp2_with fail
    refine (heL _ (by rfl)).mono ?_
    rintro e w' ⟨rfl, mm2, rfl⟩
    dsimp only
    go_wp2_with fail
    refine HK1.out _ _ ?_
    apply H8.out
    · rfl
    · exact ⟨rfl, rfl, rfl, Nat.le_refl _, fun _ _ => rfl⟩
end Go.Proofs.Ybulkexnno
