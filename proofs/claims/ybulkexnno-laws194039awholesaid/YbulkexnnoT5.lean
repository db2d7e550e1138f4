import Derived.Test.YbulkexnnoT5b
namespace Go.Proofs.Ybulkexnno
open Go.RowKit
set_option linter.unusedVariables false
variable {κ : Nat → Int} {π : Nat → Bool} {M a u AT CT C A : Nat} {Ab Rb : Nat → Nat} {Qb : Nat → Nat → Nat}

set_option maxHeartbeats 2000000 in
set_option maxRecDepth 100000 in
theorem t5 (w0 W : World) (f4 : Nat → Nat) (Pb Sb Sc : Nat → Nat) (PB CB RB N CC n4 c4 c3 : Nat) (p3 p4 : Option Addr) (hb : Below w0.heap.size w0 W)
    (hp : Pool κ π PB N Pb W) (hc : W.rowIs CB 5 N (fun i => .int .u8 (κ (Pb i)))) (hr : W.rowIs RB 4 N (fun i => .bool (π (Pb i))))
    (hl : Laid0 κ π u AT CT C A Ab Rb Qb W) (hs : Copies CC C A Sb Sc Qb W) (bN : N ≤ 257) (bC : C ≤ 256) (bA : A ≤ 256) (b4 : n4 ≤ 4096)
    (h4 : Sees W p4 n4 (fun i => .int .u8 (f4 i))) (hf4 : ∀ i, f4 i < 256) (hAT : AT < W.heap.size)
    (u0 u1 u2 u5 u6 u7 u8 u9 u10 u13 u14 u17 u18 u20 u21 u24 u25 u26 u27 u28 u29 u30 u31 u32 u33 u34 u35 u36 u37 u38 u39 u40 u41 u42 u43 u44 u45 u46 u47 u48 u49 u50 u51 u52 u53 u54 u55 u56 u57 u58 u59 u60 u61 u62 u63 u64 u65 u66 u67 u68 u69 u70 u71 u72 u73 u74 u75 u76 u77 u78 u79 u80 u81 u82 u83 u84 u85 u86 u87 u88 u89 u90 u91 u92 u93 u94 u95 u96 u97 u98 u99 u100 u101 u102 u103 u104 u105 u106 u107 u108 u109 u110 u111 u112 u113 u114 u115 u116 u117 u118 u119 u120 u121 u122 u123 u124 u125 u126 u127 u128 u129 u130 u131 u132 u133 u134 u135 u136 u137 u138 u139 u140 u141 u142 u143 u144 u145 u146 u147 u148 u149 u150 u151 u152 u153 u154 u155 u156 u157 u158 u159 u160 u161 u162 u163 u164 u165 u166 u167 u168 u169 u170 u171 u172 u173 u174 u175 u176 u177 u178 u179 u180 u181 u182 u183 u184 u185 u186 u187 u188 u189 u190 u191 u192 u193 u194 u195 u196 u197 u198 u199 u200 u201 u202 u203 u204 u205 u206 u207 u208 u209 u210 u211 u212 u213 u214 u215 u216 u217 u218 u219 u220 u221 u222 u223 u224 u225 u226 u227 u228 u229 u230 u231 u232 u233 u234 u235 u236 u237 u238 u239 u240 u241 u242 u243 u244 u245 u246 u247 u248 u249 u250 u251 u252 u253 u254 u255 u256 u257 u258 u259 u260 u261 u262 u263 u264 u265 u266 u267 u268 u269 u270 u271 u272 u273 u274 u275 u276 u277 u278 u279 u280 u281 u282 u283 u284 u285 u286 u287 u288 u289 u290 u291 u292 u293 u294 u295 u296 u297 u298 u299 u300 u301 u302 u303 u304 u305 u306 u307 u308 u309 u310 u311 u312 u313 u314 u315 u316 u317 u318 u319 u320 u321 u322 u323 u324 u325 u326 u327 u328 u329 u330 u331 u332 u333 u334 u335 u336 u337 u338 u339 u340 u341 u342 u343 u344 u345 u346 u347 u348 u349 u350 u351 u352 u353 u354 u355 u356 u357 u358 u359 u360 u361 u362 u363 u364 u365 u366 u367 u368 u369 u370 u371 u372 u373 u374 u375 u376 u377 u378 u379 u380 u381 u382 u383 u384 : Value) :
    Code.wp Yba.prog (dropTo 42 (Yba.f3.body.getD .skip)) (bodyPost Yba.prog Yba.f3 fun e w' => e = .returned (.bool true) ∧ Below w0.heap.size w0 w')
      ⟨#[u0, u1, u2, .slice p3 C c3, .slice p4 n4 c4, u5, u6, u7, u8, u9, u10, .pointer (some ⟨u, 0, none⟩), .slice (some ⟨PB, 0, none⟩) N N, u13, u14, .slice (some ⟨CB, 0, none⟩) N N, .slice (some ⟨RB, 0, none⟩) N N, u17, u18, .slice (some ⟨AT, 0, none⟩) A A, u20, u21, .slice (some ⟨CT, 0, none⟩) C C, .slice (some ⟨CC, 0, none⟩) C C, u24, u25, u26, u27, u28, u29, u30, u31, u32, u33, u34, u35, u36, u37, u38, u39, u40, u41, u42, u43, u44, u45, u46, u47, u48, u49, u50, u51, u52, u53, u54, u55, u56, u57, u58, u59, u60, u61, u62, u63, u64, u65, u66, u67, u68, u69, u70, u71, u72, u73, u74, u75, u76, u77, u78, u79, u80, u81, u82, u83, u84, u85, u86, u87, u88, u89, u90, u91, u92, u93, u94, u95, u96, u97, u98, u99, u100, u101, u102, u103, u104, u105, u106, u107, u108, u109, u110, u111, u112, u113, u114, u115, u116, u117, u118, u119, u120, u121, u122, u123, u124, u125, u126, u127, u128, u129, u130, u131, u132, u133, u134, u135, u136, u137, u138, u139, u140, u141, u142, u143, u144, u145, u146, u147, u148, u149, u150, u151, u152, u153, u154, u155, u156, u157, u158, u159, u160, u161, u162, u163, u164, u165, u166, u167, u168, u169, u170, u171, u172, u173, u174, u175, u176, u177, u178, u179, u180, u181, u182, u183, u184, u185, u186, u187, u188, u189, u190, u191, u192, u193, u194, u195, u196, u197, u198, u199, u200, u201, u202, u203, u204, u205, u206, u207, u208, u209, u210, u211, u212, u213, u214, u215, u216, u217, u218, u219, u220, u221, u222, u223, u224, u225, u226, u227, u228, u229, u230, u231, u232, u233, u234, u235, u236, u237, u238, u239, u240, u241, u242, u243, u244, u245, u246, u247, u248, u249, u250, u251, u252, u253, u254, u255, u256, u257, u258, u259, u260, u261, u262, u263, u264, u265, u266, u267, u268, u269, u270, u271, u272, u273, u274, u275, u276, u277, u278, u279, u280, u281, u282, u283, u284, u285, u286, u287, u288, u289, u290, u291, u292, u293, u294, u295, u296, u297, u298, u299, u300, u301, u302, u303, u304, u305, u306, u307, u308, u309, u310, u311, u312, u313, u314, u315, u316, u317, u318, u319, u320, u321, u322, u323, u324, u325, u326, u327, u328, u329, u330, u331, u332, u333, u334, u335, u336, u337, u338, u339, u340, u341, u342, u343, u344, u345, u346, u347, u348, u349, u350, u351, u352, u353, u354, u355, u356, u357, u358, u359, u360, u361, u362, u363, u364, u365, u366, u367, u368, u369, u370, u371, u372, u373, u374, u375, u376, u377, u378, u379, u380, u381, u382, u383, u384], []⟩ W := by
  conv => arg 2; whnf
  have HF := show Hid (∀ i, f4 i < 256) from hf4
  clear hf4
  rcases Nat.eq_zero_or_pos C with h0 | hpos
  · have hC0 : (C : Int) ≤ 0 := by omega
    have H0 := show Hid (C = 0) from h0
    clear h0
    go_upto_region 43 with (fail)
    rename_i K1 hK1 K2 hK2
    have HK1 := show Hid _ from hK1
    clear hK1
    go_wp2_with fail
    refine HK1.out _ _ ?_
    apply t5b (u := u) (AT := AT) (CT := CT) (C := C) (A := A) (Ab := Ab) (Rb := Rb) (Qb := Qb) w0 W (fun _ => 0) Pb Sb Sc PB CB RB N CC 0 0 none hb hp hc hr hl hs bN bC bA (by omega) (fun j hj => by omega) (.inl ⟨rfl, rfl, rfl⟩) hAT
  · have mk := run_make_row' (P := Yba.prog) 37 3 (.int .i64 0) 8 Yba.underlying37 Yba.info3 rfl .i64 .i64 n4 (by omega) (by omega)
    have hpC : (0 : Int) < (C : Int) := by omega
    go_upto_region 43 with (fail)
    rename_i K1 hK1 K2 hK2
    have HK1 := show Hid _ from hK1
    clear hK1
    go_wp2_with fail
    go_loopw [209] (fun i wr => ∃ k : Nat, k ≤ n4 ∧ i = .int .i64 k ∧ Below W.heap.size W wr ∧ wr.heap.size = W.heap.size + 1 ∧
        wr.rowIs W.heap.size 3 n4 (fun j => if j < k then .int .i64 (f4 j % C : Nat) else .int .i64 0)) (fun i _ => n4 - (intOf i).toNat)
    case atStart => exact ⟨0, Nat.zero_le _, rfl, (Below.refl _ _).alloc (Nat.le_refl _) _, by simp, (World.rowIs_made W (.int .i64 0) n4 3).congr (fun i _ => by simp)⟩
    case round =>
      obtain ⟨k, hk, rfl, hbel, hsz, hrow⟩ := hrel
      have HZ := show Hid (wr.heap.size = W.heap.size + 1) from hsz
      clear hsz
      by_cases hlt : k < n4
      · rcases h4 with h4 | ⟨b, o, rfl, h4⟩
        · omega
        have g1 : wr.cell? ⟨b, o + k, none⟩ = some (.int .u8 (f4 k)) := cell_later hbel (h4 k hlt)
        have hx := HF.out k
        have hr : f4 k % C < C := Nat.mod_lt _ hpos
        have hm : (f4 k : Int) % (C : Int) = ((f4 k % C : Nat) : Int) := (Int.natCast_emod _ _).symm
        obtain ⟨gs, gf⟩ : wr.cell? ⟨W.heap.size, k, none⟩ = some (.int .i64 0) ∧ wr.frozen? ⟨W.heap.size, k, none⟩ = false :=
          ⟨by rw [hrow.cell hlt]; simp, hrow.frozen k⟩
        have H4 := show Hid _ from h4
        clear h4
        have HR : Hid (∀ j, (if j = k then Value.int .i64 (f4 k % C : Nat) else if j < k then Value.int .i64 (f4 j % C : Nat) else Value.int .i64 0) = if j < k + 1 then Value.int .i64 (f4 j % C : Nat) else Value.int .i64 0) := by
          intro j
          by_cases e : j = k
          · subst e; simp
          · by_cases l : j < k
            · simp [e, l, Nat.lt_succ_of_lt l]
            · have : ¬ j < k + 1 := by omega
              simp [e, l, this]
        generalize f4 k = x at *
        generalize x % C = r at *
        go_wp2_with fail
        go_roundw
        case rel => exact ⟨k + 1, by omega, by go_num, hbel.setCell (Nat.le_refl _) _, by simpa using HZ.out, (hrow.set k _).congr (fun j _ => HR.out j)⟩
        case measure => simp [intOf]; omega
      · obtain rfl : n4 = k := by omega
        go_wp2_with fail
        refine HK1.out _ _ ?_
        apply t5b (u := u) (AT := AT) (CT := CT) (C := C) (A := A) (Ab := Ab) (Rb := Rb) (Qb := Qb) w0 wr (fun j => f4 j % C) Pb Sb Sc PB CB RB N CC n4 n4 (some ⟨W.heap.size, 0, none⟩) (below_next hb hbel) (hp.later hbel) (rowIs_later hc hbel) (rowIs_later hr hbel) (hl.later hbel) (hs.later hbel) bN bC bA b4 (fun j hj => Nat.mod_lt _ hpos)
          (.inr ⟨W.heap.size, rfl, hrow.lt, fun j hj => by rw [hrow.cell hj]; simp [hj]⟩) (Nat.lt_of_lt_of_le hAT hbel.size)
end Go.Proofs.Ybulkexnno
