import Derived.Test.YbulkexnocFmtA35
import Derived.Deep.DeepCutAuto
namespace Go.Proofs.YbulkexnocFmt
open Go.RowKit Go.Stop
set_option linter.unusedVariables false

set_option maxRecDepth 100000 in
set_option maxHeartbeats 2000000 in
theorem a27 (w0 V : World) (A D : Nat) (F : Nat → Value) (f : Nat → Int) (p pb : Option Addr) (n c cb : Nat) (so su dep most base em : Int) (chk : Bool) (hA : Came A so su dep chk most p n c base V) (hd : Done D F pb n cb base most chk em V)
    (hF : F 0 = .slice none 0 0 ∧ F 1 = .int .i64 so ∧ F 2 = .int .u64 su ∧ F 3 = .int .i64 0 ∧ F 4 = .int .i64 (-1) ∧ F 5 = .int .i64 dep ∧ F 7 = .int .i64 0 ∧ F 8 = .int .u64 0)
    (hs : Sees V p n f) (hsb : Sees V pb n f) (hn : n ≤ 1048576) (hb : Below w0.heap.size w0 V)
    (u0 u1 u2 u3 u5 u6 u7 u8 u9 u10 u12 u13 u14 u16 u17 u18 u19 u20 u21 u22 u23 u24 u25 u26 u27 u28 u29 u30 u31 u32 u33 u34 u35 u36 u37 u38 u39 u40 u41 u42 u43 u44 u45 u46 u47 u48 u49 u50 u51 u52 u53 u54 u55 u56 u57 u58 u59 u60 u61 u62 u63 u64 u65 u66 u67 u68 u69 u70 u71 u72 u73 u74 u75 u76 u77 u78 u79 u80 u81 u82 u83 u84 u85 u86 u87 u88 u89 u90 u91 u92 u93 u94 u95 u96 u97 u98 u99 u100 u101 u102 u103 u104 u105 u106 u107 u108 u109 u110 u111 u112 u113 u114 u115 u116 u117 u118 u119 u120 u121 u122 u123 u124 u125 u126 u127 u128 u129 u130 u131 u132 u133 u134 u135 u136 u137 u138 u139 u140 u141 u142 u143 u144 u145 u146 u147 u148 u149 u150 u151 u152 u153 u154 u155 u156 u157 u158 u159 u160 u161 u162 u163 u164 u165 u166 u167 u168 u169 u170 u171 u172 u173 u174 u175 u176 u177 u178 u179 u180 u181 u182 u183 u184 u185 u186 u187 u188 u189 u190 u191 u192 u193 u194 u195 u196 u197 u198 u199 u200 u201 u202 u203 u204 u205 u206 u207 u208 u209 u210 u211 u212 u213 u214 u215 u216 u217 u218 u219 u220 u221 u222 u223 u224 u225 u226 u227 u228 u229 u230 u231 u232 u233 u234 u235 u236 u237 u238 u239 u240 u241 u242 u243 u244 u245 u246 u247 u248 u249 u250 u251 u252 u253 u254 u255 u256 u257 u258 u259 u260 u261 u262 u263 u264 u265 u266 u267 u268 u269 u270 u271 u272 u273 u274 u275 u276 u277 u278 u279 u280 u281 u282 u283 u284 u285 u286 u287 u288 u289 u290 u291 u292 u293 u294 u295 u296 u297 u298 u299 u300 u301 u302 u303 u304 u305 u306 u307 u308 u309 u310 u311 u312 u313 u314 u315 u316 u317 u318 u319 u320 u321 u322 u323 u324 u325 u326 u327 u328 u329 u330 u331 u332 u333 u334 u335 u336 u337 u338 u339 u340 u341 u342 u343 u344 u345 u346 u347 u348 u349 u350 u351 u352 u353 u354 u355 u356 u357 u358 u359 u360 u361 u362 u363 u364 u365 u366 u367 u368 u369 u370 u371 u372 u373 u374 u375 u376 u377 u378 u379 u380 u381 u382 u383 u384 u385 u386 u387 u388 u389 u390 u391 u392 u393 u394 u395 u396 u397 u398 u399 u400 u401 u402 u403 u404 u405 u406 u407 u408 u409 u410 u411 u412 u413 u414 u415 u416 u417 u418 u419 u420 u421 u422 u423 u424 u425 u426 u427 u428 u429 u430 u431 u432 u433 u434 u435 u436 u437 u438 : Value) :
    Code.wp Ybaf.prog (chain 27 (Ybaf.f3.body.getD .skip)) (bodyPost Ybaf.prog Ybaf.f3 fun e w' => e = .returned (.bool true) ∧ Below w0.heap.size w0 w')
      ⟨#[u0, u1, u2, u3, .pointer (some ⟨A, 0, none⟩), u5, u6, u7, u8, u9, u10, .pointer (some ⟨D, 0, none⟩), u12, u13, u14, .int .i64 em, u16, u17, u18, u19, u20, u21, u22, u23, u24, u25, u26, u27, u28, u29, u30, u31, u32, u33, u34, u35, u36, u37, u38, u39, u40, u41, u42, u43, u44, u45, u46, u47, u48, u49, u50, u51, u52, u53, u54, u55, u56, u57, u58, u59, u60, u61, u62, u63, u64, u65, u66, u67, u68, u69, u70, u71, u72, u73, u74, u75, u76, u77, u78, u79, u80, u81, u82, u83, u84, u85, u86, u87, u88, u89, u90, u91, u92, u93, u94, u95, u96, u97, u98, u99, u100, u101, u102, u103, u104, u105, u106, u107, u108, u109, u110, u111, u112, u113, u114, u115, u116, u117, u118, u119, u120, u121, u122, u123, u124, u125, u126, u127, u128, u129, u130, u131, u132, u133, u134, u135, u136, u137, u138, u139, u140, u141, u142, u143, u144, u145, u146, u147, u148, u149, u150, u151, u152, u153, u154, u155, u156, u157, u158, u159, u160, u161, u162, u163, u164, u165, u166, u167, u168, u169, u170, u171, u172, u173, u174, u175, u176, u177, u178, u179, u180, u181, u182, u183, u184, u185, u186, u187, u188, u189, u190, u191, u192, u193, u194, u195, u196, u197, u198, u199, u200, u201, u202, u203, u204, u205, u206, u207, u208, u209, u210, u211, u212, u213, u214, u215, u216, u217, u218, u219, u220, u221, u222, u223, u224, u225, u226, u227, u228, u229, u230, u231, u232, u233, u234, u235, u236, u237, u238, u239, u240, u241, u242, u243, u244, u245, u246, u247, u248, u249, u250, u251, u252, u253, u254, u255, u256, u257, u258, u259, u260, u261, u262, u263, u264, u265, u266, u267, u268, u269, u270, u271, u272, u273, u274, u275, u276, u277, u278, u279, u280, u281, u282, u283, u284, u285, u286, u287, u288, u289, u290, u291, u292, u293, u294, u295, u296, u297, u298, u299, u300, u301, u302, u303, u304, u305, u306, u307, u308, u309, u310, u311, u312, u313, u314, u315, u316, u317, u318, u319, u320, u321, u322, u323, u324, u325, u326, u327, u328, u329, u330, u331, u332, u333, u334, u335, u336, u337, u338, u339, u340, u341, u342, u343, u344, u345, u346, u347, u348, u349, u350, u351, u352, u353, u354, u355, u356, u357, u358, u359, u360, u361, u362, u363, u364, u365, u366, u367, u368, u369, u370, u371, u372, u373, u374, u375, u376, u377, u378, u379, u380, u381, u382, u383, u384, u385, u386, u387, u388, u389, u390, u391, u392, u393, u394, u395, u396, u397, u398, u399, u400, u401, u402, u403, u404, u405, u406, u407, u408, u409, u410, u411, u412, u413, u414, u415, u416, u417, u418, u419, u420, u421, u422, u423, u424, u425, u426, u427, u428, u429, u430, u431, u432, u433, u434, u435, u436, u437, u438], []⟩ V := by
  conv => arg 2; whnf
  obtain ⟨G, hr, g2, g3, g4, g5⟩ := hd
  have k0 : V.cell? ⟨D, 0, none⟩ = some (.slice none 0 0) := by rw [hr.cell (by omega), g2 0 (by omega) (by omega), hF.1]
  have k1 : V.cell? ⟨D, 1, none⟩ = some (.int .i64 so) := by rw [hr.cell (by omega), g2 1 (by omega) (by omega), hF.2.1]
  have k2 : V.cell? ⟨D, 2, none⟩ = some (.int .u64 su) := by rw [hr.cell (by omega), g2 2 (by omega) (by omega), hF.2.2.1]
  have k3 : V.cell? ⟨D, 3, none⟩ = some (.int .i64 0) := by rw [hr.cell (by omega), g2 3 (by omega) (by omega), hF.2.2.2.1]
  have k4 : V.cell? ⟨D, 4, none⟩ = some (.int .i64 (-1)) := by rw [hr.cell (by omega), g2 4 (by omega) (by omega), hF.2.2.2.2.1]
  have k5 : V.cell? ⟨D, 5, none⟩ = some (.int .i64 dep) := by rw [hr.cell (by omega), g2 5 (by omega) (by omega), hF.2.2.2.2.2.1]
  have k6 : V.cell? ⟨D, 6, none⟩ = some (.int .i64 em) := by rw [hr.cell (by omega), g3]
  have k7 : V.cell? ⟨D, 7, none⟩ = some (.int .i64 0) := by rw [hr.cell (by omega), g2 7 (by omega) (by omega), hF.2.2.2.2.2.2.1]
  have k8 : V.cell? ⟨D, 8, none⟩ = some (.int .u64 0) := by rw [hr.cell (by omega), g2 8 (by omega) (by omega), hF.2.2.2.2.2.2.2]
  have c577 : V.cell? ⟨D, 577, none⟩ = some (.int .i64 most) := by rw [hr.cell (by omega), g4]
  have r573 := hr.cell (show 573 < 579 by omega)
  have r574 := hr.cell (show 574 < 579 by omega)
  have r575 := hr.cell (show 575 < 579 by omega)
  have r576 := hr.cell (show 576 < 579 by omega)
  have r578 := hr.cell (show 578 < 579 by omega)
  obtain ⟨s0, s1, s4, s5, s6, s7, s8⟩ := hA
  have hL := neq29 dep em
  have n23 := neq23
  have e23 := eql23
  have e74 := eql74
  have e33 := eql33
  have heq := fun (k : Nat) => equal_any (V.drewN k) pb p n cb c f (hsb.keep (fun b _ _ _ => rfl)) (hs.keep (fun b _ _ _ => rfl))
  have HEQ := show Hid _ from heq
  have HN := show Hid _ from hn
  have HSS := show Hid _ from And.intro hs hsb
  clear hr g2 g3 g4 hF hs hsb heq hn
  have G5 := show Hid _ from g5
  have RR := show Hid _ from And.intro r573 (And.intro r574 (And.intro r575 (And.intro r576 r578)))
  clear g5 r573 r574 r575 r576 r578
  go_wp2_with fail
  go_quiet (fail)
  go_wp2_with fail
  go_quiet (fail)
  go_wp2_with fail
  go_quiet (fail)
  go_upto_region 36 with (fail)
  obtain ⟨r573, r574, r575, r576, r578⟩ := RR.out
  have g5 := G5.out
  clear G5 RR
  rcases g5 with ⟨rfl, z8, z3, z4, ⟨q, c', z5⟩, z6⟩ | ⟨rfl, hp, z8, z3, z4, z5, z6⟩ | ⟨rfl, hp, hlt, z8, z3, z4, z5, z6⟩ | ⟨rfl, hp, hlt, z8, g1, c1, g2, c2, g3, z3, y1, z4, y2, z6, z5⟩
  · rw [z3] at r573; rw [z4] at r574; rw [z5] at r575; rw [z6] at r576; rw [z8] at r578
    clear z3 z4 z5 z6 z8
    go_wp2_with fail
    go_quiet (fail)
    go_wp2
    go_ret
    exact ⟨rfl, below_drewN (below_drewN hb _) _⟩
  · obtain ⟨hp1, hp2⟩ := hp
    rw [z3] at r573; rw [z4] at r574; rw [z5] at r575; rw [z6] at r576; rw [z8] at r578
    clear z3 z4 z5 z6 z8
    go_wp2_with fail
    go_ret
    exact ⟨rfl, below_drewN hb _⟩
  · have hnb : decide ((n : Int) < 64512) = true := decide_eq_true (by omega)
    clear hlt
    rw [z3] at r573; rw [z4] at r574; rw [z5] at r575; rw [z6] at r576; rw [z8] at r578
    clear z3 z4 z5 z6 z8
    by_cases hm : 0 < most
    · have hg : decide (most < wrap64 (base + n)) = false := decide_eq_false (fun h => hp ⟨hm, h⟩)
      clear hp
      go_wp2_with fail
      go_quiet ((go_at_call 5; go_must (exact eq_quiet HEQ.out _ _)))
      go_wp2
      go_ret
      exact ⟨rfl, below_drewN (below_drewN hb _) _⟩

    · have hm' : decide (0 < most) = false := decide_eq_false hm
      clear hp hm
      go_wp2_with fail
      go_quiet ((go_at_call 5; go_must (exact eq_quiet HEQ.out _ _)))
      go_wp2
      go_ret
      exact ⟨rfl, below_drewN (below_drewN hb _) _⟩

  · have hnb : decide ((n : Int) < 64512) = false := decide_eq_false (by omega)
    clear hlt
    rw [z3] at r573; rw [z4] at r574; rw [z5] at r575; rw [z6] at r576; rw [z8] at r578
    clear z3 z4 z5 z6 z8
    by_cases hm : 0 < most
    · have hg : decide (most < wrap64 (base + n)) = false := decide_eq_false (fun h => hp ⟨hm, h⟩)
      clear hp
      go_upto_region 33 with (fail)
      rename_i K3 hK3 K4 hK4
      have HK3 := show Hid _ from hK3
      clear hK3
      go_wp2_with fail
      refine HK3.out _ _ ?_
      apply a35 w0 (V.drewN _) A D g1 c1 g2 c2 g3 f p pb n c cb base s7 s8 r573 y1 r574 y2 r576 r575 HSS.out.1 HSS.out.2 (below_drewN hb _)
    · have hm' : decide (0 < most) = false := decide_eq_false hm
      clear hp hm
      go_upto_region 33 with (fail)
      rename_i K3 hK3 K4 hK4
      have HK3 := show Hid _ from hK3
      clear hK3
      go_wp2_with fail
      refine HK3.out _ _ ?_
      apply a35 w0 (V.drewN _) A D g1 c1 g2 c2 g3 f p pb n c cb base s7 s8 r573 y1 r574 y2 r576 r575 HSS.out.1 HSS.out.2 (below_drewN hb _)
end Go.Proofs.YbulkexnocFmt
