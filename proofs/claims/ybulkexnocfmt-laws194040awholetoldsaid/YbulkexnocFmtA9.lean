import Derived.Test.YbulkexnocFmtA11
import Derived.Test.YbulkexnocFmtACopy
namespace Go.Proofs.YbulkexnocFmt
open Go.RowKit Go.Stop
set_option linter.unusedVariables false

def parts (so su dep em : Int) : List (Nat × Value) := [(1, .int .i64 so), (2, .int .u64 su), (4, .int .i64 (-1)), (5, .agg #[.int .i64 dep, .int .i64 em, .int .i64 0, .int .u64 0])]
theorem dec_ex (so su dep em : Int) : ∃ cells : Array Value, Ybaf.prog.built 80 (parts so su dep em) = some cells ∧ cells.size = 579 ∧ Laid so su dep em (fun i => cells[i]?.getD (.bool false)) := by
  refine ⟨(Ybaf.prog.built 80 (parts so su dep em)).getD #[], ?_, ?_, ?_, ?_, ?_, ?_, ?_, ?_, ?_, ?_, ?_, ?_, ?_⟩
  · have h : (Ybaf.prog.built 80 (parts so su dep em)).isSome = true := by kernel_rfl
    obtain ⟨x, hx⟩ := Option.isSome_iff_exists.1 h
    rw [hx]
    rfl
  all_goals kernel_rfl

theorem wpList_b80 {ops : Array Oper} {rest : List Oper} {oo : Oper} {a : Act} {Q : Exit → Act → World → Prop} {V : World} {so su dep em : Int} (hgd : oo.guard = none) (x1 x2 x5 : Operand)
    (hop : oo.op = .build 80 #[(1, x1), (2, x2), (4, .const (.int .i64 (-1))), (5, x5)]) (e1 : a.eval x1 = .int .i64 so) (e2 : a.eval x2 = .int .u64 su) (e5 : a.eval x5 = .agg #[.int .i64 dep, .int .i64 em, .int .i64 0, .int .u64 0])
    (hK : ∀ cells : Array Value, cells.size = 579 → Hid (Laid so su dep em (fun i => cells[i]?.getD (.bool false))) → wpList Ybaf.prog ops Q rest (a.put oo.dst (.agg cells)) V) :
    wpList Ybaf.prog ops Q (oo :: rest) a V :=
  wpList_plain hgd fun _ hK' => by
    obtain ⟨cells, h1, h2, h3⟩ := dec_ex so su dep em
    have hr : (Instr.build 80 #[(1, .int .i64 so), (2, .int .u64 su), (4, .int .i64 (-1)), (5, .agg #[.int .i64 dep, .int .i64 em, .int .i64 0, .int .u64 0])]).run Ybaf.prog V = .ok (.agg cells) V := run_build V 80 _ _ h1
    have e4 : a.eval (.const (.int .i64 (-1))) = .int .i64 (-1) := rfl
    unfold Oper.wp execOp
    simp only [hop, Sem.run_bind, Sem.run_pure, Result.andThen_ok, List.map_toArray, List.map_cons, List.map_nil, e1, e2, e4, e5, hr]
    exact hK' _ _ (hK cells h2 (show Hid _ from h3))

set_option maxRecDepth 100000 in
set_option maxHeartbeats 2000000 in
theorem a10 (Fi : Interp) (w0 W : World) (hFi : Fi.told.answers W.tape) (A : Nat) (f : Nat → Int) (p pb : Option Addr) (n c cb : Nat) (so su dep most base em off used : Int) (chk : Bool) (hA : Came A so su dep chk most p n c base W)
    (hs : Sees W p n f) (hsb : Sees W pb n f) (hp : pb = none → n = 0 ∧ cb = 0) (hc : n ≤ cb) (hn : n ≤ 1048576)
    (hpD : ∀ b o, p = some ⟨b, o, none⟩ → 0 < n → b < W.heap.size) (hpbD : ∀ b o, pb = some ⟨b, o, none⟩ → 0 < n → b < W.heap.size)
    (hb : Below w0.heap.size w0 W)
    (u0 u3 u5 u6 u7 u8 u11 u12 u13 u14 u15 u16 u17 u18 u19 u20 u21 u22 u23 u24 u25 u26 u27 u28 u29 u30 u31 u32 u33 u34 u35 u36 u37 u38 u39 u40 u41 u42 u43 u44 u45 u46 u47 u48 u49 u50 u51 u52 u53 u54 u55 u56 u57 u58 u59 u60 u61 u62 u63 u64 u65 u66 u67 u68 u69 u70 u71 u72 u73 u74 u75 u76 u77 u78 u79 u80 u81 u82 u83 u84 u85 u86 u87 u88 u89 u90 u91 u92 u93 u94 u95 u96 u97 u98 u99 u100 u101 u102 u103 u104 u105 u106 u107 u108 u109 u110 u111 u112 u113 u114 u115 u116 u117 u118 u119 u120 u121 u122 u123 u124 u125 u126 u127 u128 u129 u130 u131 u132 u133 u134 u135 u136 u137 u138 u139 u140 u141 u142 u143 u144 u145 u146 u147 u148 u149 u150 u151 u152 u153 u154 u155 u156 u157 u158 u159 u160 u161 u162 u163 u164 u165 u166 u167 u168 u169 u170 u171 u172 u173 u174 u175 u176 u177 u178 u179 u180 u181 u182 u183 u184 u185 u186 u187 u188 u189 u190 u191 u192 u193 u194 u195 u196 u197 u198 u199 u200 u201 u202 u203 u204 u205 u206 u207 u208 u209 u210 u211 u212 u213 u214 u215 u216 u217 u218 u219 u220 u221 u222 u223 u224 u225 u226 u227 u228 u229 u230 u231 u232 u233 u234 u235 u236 u237 u238 u239 u240 u241 u242 u243 u244 u245 u246 u247 u248 u249 u250 u251 u252 u253 u254 u255 u256 u257 u258 u259 u260 u261 u262 u263 u264 u265 u266 u267 u268 u269 u270 u271 u272 u273 u274 u275 u276 u277 u278 u279 u280 u281 u282 u283 u284 u285 u286 u287 u288 u289 u290 u291 u292 u293 u294 u295 u296 u297 u298 u299 u300 u301 u302 u303 u304 u305 u306 u307 u308 u309 u310 u311 u312 u313 u314 u315 u316 u317 u318 u319 u320 u321 u322 u323 u324 u325 u326 u327 u328 u329 u330 u331 u332 u333 u334 u335 u336 u337 u338 u339 u340 u341 u342 u343 u344 u345 u346 u347 u348 u349 u350 u351 u352 u353 u354 u355 u356 u357 u358 u359 u360 u361 u362 u363 u364 u365 u366 u367 u368 u369 u370 u371 u372 u373 u374 u375 u376 u377 u378 u379 u380 u381 u382 u383 u384 u385 u386 u387 u388 u389 u390 u391 u392 u393 u394 u395 u396 u397 u398 u399 u400 u401 u402 u403 u404 u405 u406 u407 u408 u409 u410 u411 u412 u413 u414 u415 u416 u417 u418 u419 u420 u421 u422 u423 u424 u425 u426 u427 u428 u429 u430 u431 u432 u433 u434 u435 u436 u437 u438 : Value) :
    Code.wp Ybaf.prog (chain 10 (Ybaf.f3.body.getD .skip)) (bodyPost Ybaf.prog Ybaf.f3 fun e w' => e = .returned (.bool true) ∧ Below w0.heap.size w0 w')
      ⟨#[u0, .int .i64 off, .int .u64 used, u3, .pointer (some ⟨A, 0, none⟩), u5, u6, u7, u8, .int .i64 em, .slice pb n cb, u11, u12, u13, u14, u15, u16, u17, u18, u19, u20, u21, u22, u23, u24, u25, u26, u27, u28, u29, u30, u31, u32, u33, u34, u35, u36, u37, u38, u39, u40, u41, u42, u43, u44, u45, u46, u47, u48, u49, u50, u51, u52, u53, u54, u55, u56, u57, u58, u59, u60, u61, u62, u63, u64, u65, u66, u67, u68, u69, u70, u71, u72, u73, u74, u75, u76, u77, u78, u79, u80, u81, u82, u83, u84, u85, u86, u87, u88, u89, u90, u91, u92, u93, u94, u95, u96, u97, u98, u99, u100, u101, u102, u103, u104, u105, u106, u107, u108, u109, u110, u111, u112, u113, u114, u115, u116, u117, u118, u119, u120, u121, u122, u123, u124, u125, u126, u127, u128, u129, u130, u131, u132, u133, u134, u135, u136, u137, u138, u139, u140, u141, u142, u143, u144, u145, u146, u147, u148, u149, u150, u151, u152, u153, u154, u155, u156, u157, u158, u159, u160, u161, u162, u163, u164, u165, u166, u167, u168, u169, u170, u171, u172, u173, u174, u175, u176, u177, u178, u179, u180, u181, u182, u183, u184, u185, u186, u187, u188, u189, u190, u191, u192, u193, u194, u195, u196, u197, u198, u199, u200, u201, u202, u203, u204, u205, u206, u207, u208, u209, u210, u211, u212, u213, u214, u215, u216, u217, u218, u219, u220, u221, u222, u223, u224, u225, u226, u227, u228, u229, u230, u231, u232, u233, u234, u235, u236, u237, u238, u239, u240, u241, u242, u243, u244, u245, u246, u247, u248, u249, u250, u251, u252, u253, u254, u255, u256, u257, u258, u259, u260, u261, u262, u263, u264, u265, u266, u267, u268, u269, u270, u271, u272, u273, u274, u275, u276, u277, u278, u279, u280, u281, u282, u283, u284, u285, u286, u287, u288, u289, u290, u291, u292, u293, u294, u295, u296, u297, u298, u299, u300, u301, u302, u303, u304, u305, u306, u307, u308, u309, u310, u311, u312, u313, u314, u315, u316, u317, u318, u319, u320, u321, u322, u323, u324, u325, u326, u327, u328, u329, u330, u331, u332, u333, u334, u335, u336, u337, u338, u339, u340, u341, u342, u343, u344, u345, u346, u347, u348, u349, u350, u351, u352, u353, u354, u355, u356, u357, u358, u359, u360, u361, u362, u363, u364, u365, u366, u367, u368, u369, u370, u371, u372, u373, u374, u375, u376, u377, u378, u379, u380, u381, u382, u383, u384, u385, u386, u387, u388, u389, u390, u391, u392, u393, u394, u395, u396, u397, u398, u399, u400, u401, u402, u403, u404, u405, u406, u407, u408, u409, u410, u411, u412, u413, u414, u415, u416, u417, u418, u419, u420, u421, u422, u423, u424, u425, u426, u427, u428, u429, u430, u431, u432, u433, u434, u435, u436, u437, u438], []⟩ W := by
  conv => arg 2; whnf
  have HA := show Hid _ from hA
  have HSS := show Hid _ from And.intro hs hsb
  have HN := show Hid _ from And.intro hn (And.intro hp hc)
  have HP := show Hid _ from And.intro hpD hpbD
  have HF := show Hid _ from hFi
  obtain ⟨s0, s1, s4, s5, s6, s7, s8⟩ := hA
  have hAlt := lt_of_cell s0
  clear hs hsb hn hp hc hpD hpbD hFi s5 s6 s7 s8
  go_upto_region 10 with (fail)
  rename_i Kx hKx
  have HK := show Hid _ from hKx
  clear hKx
  go_wp2_with (refine wpList_b80 (so := so) (su := su) (dep := dep) (em := em) rfl _ _ _ rfl rfl rfl rfl ?_)
  intro cells hsz HL
  have HZ := show Hid _ from hsz
  clear hsz
  go_wp2_with fail
  refine HK.out _ _ ?_
  have hrow := World.rowIs_alloc W cells 80 (fun i => cells[i]?.getD (.bool false)) (fun i hi => by rw [Array.getElem?_eq_getElem hi]; rfl)
  rw [HZ.out] at hrow
  have hal := (Below.refl W.heap.size W).alloc (Nat.le_refl _) (.cells cells 80)
  apply a11 Fi w0 (W.alloc (.cells cells 80)) HF.out A W.heap.size (fun i => cells[i]?.getD (.bool false)) f p pb n c cb so su dep most base em off used chk (Came.far HA.out (hal.block _ hAlt)) hrow (by omega) HL.out
    (Sees.later HSS.out.1 hal) (Sees.later HSS.out.2 hal) HN.out.2.1 HN.out.2.2 HN.out.1 (fun b o e h0 => Nat.ne_of_lt (HP.out.1 b o e h0)) (fun b o e h0 => Nat.ne_of_lt (HP.out.2 b o e h0)) (hb.alloc hb.size _) hb.size

set_option maxRecDepth 100000 in
set_option maxHeartbeats 2000000 in
theorem a9 (Fi : Interp) (w0 W : World) (hFi : Fi.told.answers W.tape) (A : Nat) (f : Nat → Int) (p : Option Addr) (n c : Nat) (so su dep most base em off used : Int) (chk : Bool) (hA : Came A so su dep chk most p n c base W)
    (hs : Sees W p n f) (hn : n ≤ 1048576) (hpD : ∀ b o, p = some ⟨b, o, none⟩ → 0 < n → b < W.heap.size) (hb : Below w0.heap.size w0 W)
    (u0 u3 u5 u6 u7 u8 u10 u11 u12 u13 u14 u15 u16 u17 u18 u19 u20 u21 u22 u23 u24 u25 u26 u27 u28 u29 u30 u31 u32 u33 u34 u35 u36 u37 u38 u39 u40 u41 u42 u43 u44 u45 u46 u47 u48 u49 u50 u51 u52 u53 u54 u55 u56 u57 u58 u59 u60 u61 u62 u63 u64 u65 u66 u67 u68 u69 u70 u71 u72 u73 u74 u75 u76 u77 u78 u79 u80 u81 u82 u83 u84 u85 u86 u87 u88 u89 u90 u91 u92 u93 u94 u95 u96 u97 u98 u99 u100 u101 u102 u103 u104 u105 u106 u107 u108 u109 u110 u111 u112 u113 u114 u115 u116 u117 u118 u119 u120 u121 u122 u123 u124 u125 u126 u127 u128 u129 u130 u131 u132 u133 u134 u135 u136 u137 u138 u139 u140 u141 u142 u143 u144 u145 u146 u147 u148 u149 u150 u151 u152 u153 u154 u155 u156 u157 u158 u159 u160 u161 u162 u163 u164 u165 u166 u167 u168 u169 u170 u171 u172 u173 u174 u175 u176 u177 u178 u179 u180 u181 u182 u183 u184 u185 u186 u187 u188 u189 u190 u191 u192 u193 u194 u195 u196 u197 u198 u199 u200 u201 u202 u203 u204 u205 u206 u207 u208 u209 u210 u211 u212 u213 u214 u215 u216 u217 u218 u219 u220 u221 u222 u223 u224 u225 u226 u227 u228 u229 u230 u231 u232 u233 u234 u235 u236 u237 u238 u239 u240 u241 u242 u243 u244 u245 u246 u247 u248 u249 u250 u251 u252 u253 u254 u255 u256 u257 u258 u259 u260 u261 u262 u263 u264 u265 u266 u267 u268 u269 u270 u271 u272 u273 u274 u275 u276 u277 u278 u279 u280 u281 u282 u283 u284 u285 u286 u287 u288 u289 u290 u291 u292 u293 u294 u295 u296 u297 u298 u299 u300 u301 u302 u303 u304 u305 u306 u307 u308 u309 u310 u311 u312 u313 u314 u315 u316 u317 u318 u319 u320 u321 u322 u323 u324 u325 u326 u327 u328 u329 u330 u331 u332 u333 u334 u335 u336 u337 u338 u339 u340 u341 u342 u343 u344 u345 u346 u347 u348 u349 u350 u351 u352 u353 u354 u355 u356 u357 u358 u359 u360 u361 u362 u363 u364 u365 u366 u367 u368 u369 u370 u371 u372 u373 u374 u375 u376 u377 u378 u379 u380 u381 u382 u383 u384 u385 u386 u387 u388 u389 u390 u391 u392 u393 u394 u395 u396 u397 u398 u399 u400 u401 u402 u403 u404 u405 u406 u407 u408 u409 u410 u411 u412 u413 u414 u415 u416 u417 u418 u419 u420 u421 u422 u423 u424 u425 u426 u427 u428 u429 u430 u431 u432 u433 u434 u435 u436 u437 u438 : Value) :
    Code.wp Ybaf.prog (chain 9 (Ybaf.f3.body.getD .skip)) (bodyPost Ybaf.prog Ybaf.f3 fun e w' => e = .returned (.bool true) ∧ Below w0.heap.size w0 w')
      ⟨#[u0, .int .i64 off, .int .u64 used, u3, .pointer (some ⟨A, 0, none⟩), u5, u6, u7, u8, .int .i64 em, u10, u11, u12, u13, u14, u15, u16, u17, u18, u19, u20, u21, u22, u23, u24, u25, u26, u27, u28, u29, u30, u31, u32, u33, u34, u35, u36, u37, u38, u39, u40, u41, u42, u43, u44, u45, u46, u47, u48, u49, u50, u51, u52, u53, u54, u55, u56, u57, u58, u59, u60, u61, u62, u63, u64, u65, u66, u67, u68, u69, u70, u71, u72, u73, u74, u75, u76, u77, u78, u79, u80, u81, u82, u83, u84, u85, u86, u87, u88, u89, u90, u91, u92, u93, u94, u95, u96, u97, u98, u99, u100, u101, u102, u103, u104, u105, u106, u107, u108, u109, u110, u111, u112, u113, u114, u115, u116, u117, u118, u119, u120, u121, u122, u123, u124, u125, u126, u127, u128, u129, u130, u131, u132, u133, u134, u135, u136, u137, u138, u139, u140, u141, u142, u143, u144, u145, u146, u147, u148, u149, u150, u151, u152, u153, u154, u155, u156, u157, u158, u159, u160, u161, u162, u163, u164, u165, u166, u167, u168, u169, u170, u171, u172, u173, u174, u175, u176, u177, u178, u179, u180, u181, u182, u183, u184, u185, u186, u187, u188, u189, u190, u191, u192, u193, u194, u195, u196, u197, u198, u199, u200, u201, u202, u203, u204, u205, u206, u207, u208, u209, u210, u211, u212, u213, u214, u215, u216, u217, u218, u219, u220, u221, u222, u223, u224, u225, u226, u227, u228, u229, u230, u231, u232, u233, u234, u235, u236, u237, u238, u239, u240, u241, u242, u243, u244, u245, u246, u247, u248, u249, u250, u251, u252, u253, u254, u255, u256, u257, u258, u259, u260, u261, u262, u263, u264, u265, u266, u267, u268, u269, u270, u271, u272, u273, u274, u275, u276, u277, u278, u279, u280, u281, u282, u283, u284, u285, u286, u287, u288, u289, u290, u291, u292, u293, u294, u295, u296, u297, u298, u299, u300, u301, u302, u303, u304, u305, u306, u307, u308, u309, u310, u311, u312, u313, u314, u315, u316, u317, u318, u319, u320, u321, u322, u323, u324, u325, u326, u327, u328, u329, u330, u331, u332, u333, u334, u335, u336, u337, u338, u339, u340, u341, u342, u343, u344, u345, u346, u347, u348, u349, u350, u351, u352, u353, u354, u355, u356, u357, u358, u359, u360, u361, u362, u363, u364, u365, u366, u367, u368, u369, u370, u371, u372, u373, u374, u375, u376, u377, u378, u379, u380, u381, u382, u383, u384, u385, u386, u387, u388, u389, u390, u391, u392, u393, u394, u395, u396, u397, u398, u399, u400, u401, u402, u403, u404, u405, u406, u407, u408, u409, u410, u411, u412, u413, u414, u415, u416, u417, u418, u419, u420, u421, u422, u423, u424, u425, u426, u427, u428, u429, u430, u431, u432, u433, u434, u435, u436, u437, u438], []⟩ W := by
  conv => arg 2; whnf
  have HA := show Hid _ from hA
  have HS := show Hid _ from hs
  have HN := show Hid _ from hn
  have HP := show Hid _ from hpD
  have HF := show Hid _ from hFi
  obtain ⟨s0, s1, s4, s5, s6, s7, s8⟩ := hA
  have hAlt := lt_of_cell s0
  clear hs hn hpD hFi s0 s1 s4 s5 s6 s8
  go_upto_region 9 with (fail)
  rename_i Kx hKx
  have HK := show Hid _ from hKx
  clear hKx
  go_wp2_with (at_builtin; refine wpList_copy rfl _ _ rfl rfl rfl HS.out HN.out ?_)
  intro pb cb w' b1 b2 b3 b4 b5
  have H2 := show Hid _ from And.intro b2 (And.intro b3 (And.intro b4 b5))
  clear b2 b3 b4 b5
  go_wp2_with fail
  refine HK.out _ _ ?_
  obtain ⟨b2, b3, b4, b5⟩ := H2.out
  apply a10 Fi w0 w' (by rw [b1.tape]; exact HF.out) A f p pb n c cb so su dep most base em off used chk (Came.far HA.out (b1.block _ hAlt)) (Sees.later HS.out b1) b2 b3 b4 HN.out (fun b o e h0 => Nat.lt_of_lt_of_le (HP.out b o e h0) b1.size) (fun b o e _ => b5 b o e) (hb.trans (b1.mono hb.size))
end Go.Proofs.YbulkexnocFmt
