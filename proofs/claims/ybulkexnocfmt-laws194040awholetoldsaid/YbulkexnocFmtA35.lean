import Derived.Test.YbulkexnocFmtAEq
import Derived.Deep.DeepCutAuto
namespace Go.Proofs.YbulkexnocFmt
open Go.RowKit Go.Stop
set_option linter.unusedVariables false

theorem neq29 (a b : Int) (V : World) : (binOp .neq 29 (.agg #[.int .i64 a, .int .i64 b, .int .i64 0, .int .u64 0]) (.agg #[.int .i64 a, .int .i64 b, .int .i64 0, .int .u64 0])).run Ybaf.prog V = .ok (.bool false) V := by
  have hS : Ybaf.prog.underlying 29 = some (.struct (Ybaf.prog.fieldsOf 29)) := by kernel_rfl
  have hp : Ybaf.prog.stoodInHeld 29 = false := by kernel_rfl
  rw [run_neq_struct, show (10000 : Nat) = 9999 + 1 from rfl, run_equalIn_agg V 9999 29 _ _ hS hp]
  simp only [Program.fieldsOf, Ybaf.underlying29]
  have z3 : Ybaf.prog.cellsOf 3 = 1 := by kernel_rfl
  have z27 : Ybaf.prog.cellsOf 27 = 1 := by kernel_rfl
  go_simp
theorem neq23 (V : World) : (binOp .neq 23 (.slice none 0 0) (.slice none 0 0)).run Ybaf.prog V = .ok (.bool false) V := by kernel_rfl
theorem eql23 (V : World) : (binOp .eql 23 (.slice none 0 0) (.slice none 0 0)).run Ybaf.prog V = .ok (.bool true) V := by kernel_rfl
theorem eql74 (V : World) : (binOp .eql 74 (.slice none 0 0) (.slice none 0 0)).run Ybaf.prog V = .ok (.bool true) V := by kernel_rfl
theorem eql33 (V : World) : (binOp .eql 33 (.slice none 0 0) (.slice none 0 0)).run Ybaf.prog V = .ok (.bool true) V := by kernel_rfl

theorem eq_quiet {P : Program} {f : FuncId} {args : Array Value} {V : World} {v : Value} (h : ∀ k, Calls P f args (V.drewN k) fun e w' => e = .returned v ∧ w' = V.drewN k) (a x : Nat) :
    Calls P f args (V.drewN (a + x)) fun e w'' => e = .returned v ∧ ∃ n, w'' = V.drewN (a + n) := (h (a + x)).mono fun _ _ ⟨he, hm⟩ => ⟨he, x, hm⟩

/-- The state that came in, in its box. -/
def Came (A : Nat) (so su dep : Int) (chk : Bool) (most : Int) (p : Option Addr) (n c : Nat) (base : Int) (V : World) : Prop :=
  V.cell? ⟨A, 0, none⟩ = some (.int .i64 so) ∧ V.cell? ⟨A, 1, none⟩ = some (.int .u64 su) ∧ V.cell? ⟨A, 4, none⟩ = some (.int .i64 dep) ∧ V.cell? ⟨A, 5, none⟩ = some (.bool chk) ∧ V.cell? ⟨A, 6, none⟩ = some (.int .i64 most) ∧
  V.cell? ⟨A, 7, none⟩ = some (.slice p n c) ∧ V.cell? ⟨A, 8, none⟩ = some (.int .i64 base)

set_option maxRecDepth 100000 in
set_option maxHeartbeats 4000000 in
theorem a35 (w0 V : World) (A D g1 c1 g2 c2 g3 : Nat) (f : Nat → Int) (p pb : Option Addr) (n c cb : Nat) (base : Int) (s7 : V.cell? ⟨A, 7, none⟩ = some (.slice p n c)) (s8 : V.cell? ⟨A, 8, none⟩ = some (.int .i64 base))
    (r573 : V.cell? ⟨D, 573, none⟩ = some (.slice (some ⟨g1, 0, none⟩) 1 c1)) (y1 : V.cell? ⟨g1, 0, none⟩ = some (.slice pb n cb)) (r574 : V.cell? ⟨D, 574, none⟩ = some (.slice (some ⟨g2, 0, none⟩) 1 c2))
    (y2 : V.cell? ⟨g2, 0, none⟩ = some (.int .i64 base)) (r576 : V.cell? ⟨D, 576, none⟩ = some (.int .i64 (wrap64 (base + n)))) (r575 : V.cell? ⟨D, 575, none⟩ = some (.slice (some ⟨g3, 0, none⟩) 0 65536))
    (hs : Sees V p n f) (hsb : Sees V pb n f) (hb : Below w0.heap.size w0 V)
    (u0 u1 u2 u3 u5 u6 u7 u8 u9 u10 u12 u13 u14 u15 u16 u17 u18 u19 u20 u21 u22 u23 u24 u25 u26 u27 u28 u29 u30 u31 u32 u33 u34 u35 u36 u37 u38 u39 u40 u41 u42 u43 u44 u45 u46 u47 u48 u49 u50 u51 u52 u53 u54 u55 u56 u57 u58 u59 u60 u61 u62 u63 u64 u65 u66 u67 u68 u69 u70 u71 u72 u73 u74 u75 u76 u77 u78 u79 u80 u81 u82 u83 u84 u85 u86 u87 u88 u89 u90 u91 u92 u93 u94 u95 u96 u97 u98 u99 u100 u101 u102 u103 u104 u105 u106 u107 u108 u109 u110 u111 u112 u113 u114 u115 u116 u117 u118 u119 u120 u121 u122 u123 u124 u125 u126 u127 u128 u129 u130 u131 u132 u133 u134 u135 u136 u137 u138 u139 u140 u141 u142 u143 u144 u145 u146 u147 u148 u149 u150 u151 u152 u153 u154 u155 u156 u157 u158 u159 u160 u161 u162 u163 u164 u165 u166 u167 u168 u169 u170 u171 u172 u173 u174 u175 u176 u177 u178 u179 u180 u181 u182 u183 u184 u185 u186 u187 u188 u189 u190 u191 u192 u193 u194 u195 u196 u197 u198 u199 u200 u201 u202 u203 u204 u205 u206 u207 u208 u209 u210 u211 u212 u213 u214 u215 u216 u217 u218 u219 u220 u221 u222 u223 u224 u225 u226 u227 u228 u229 u230 u231 u232 u233 u234 u235 u236 u237 u238 u239 u240 u241 u242 u243 u244 u245 u246 u247 u248 u249 u250 u251 u252 u253 u254 u255 u256 u257 u258 u259 u260 u261 u262 u263 u264 u265 u266 u267 u268 u269 u270 u271 u272 u273 u274 u275 u276 u277 u278 u279 u280 u281 u282 u283 u284 u285 u286 u287 u288 u289 u290 u291 u292 u293 u294 u295 u296 u297 u298 u299 u300 u301 u302 u303 u304 u305 u306 u307 u308 u309 u310 u311 u312 u313 u314 u315 u316 u317 u318 u319 u320 u321 u322 u323 u324 u325 u326 u327 u328 u329 u330 u331 u332 u333 u334 u335 u336 u337 u338 u339 u340 u341 u342 u343 u344 u345 u346 u347 u348 u349 u350 u351 u352 u353 u354 u355 u356 u357 u358 u359 u360 u361 u362 u363 u364 u365 u366 u367 u368 u369 u370 u371 u372 u373 u374 u375 u376 u377 u378 u379 u380 u381 u382 u383 u384 u385 u386 u387 u388 u389 u390 u391 u392 u393 u394 u395 u396 u397 u398 u399 u400 u401 u402 u403 u404 u405 u406 u407 u408 u409 u410 u411 u412 u413 u414 u415 u416 u417 u418 u419 u420 u421 u422 u423 u424 u425 u426 u427 u428 u429 u430 u431 u432 u433 u434 u435 u436 u437 u438 : Value) :
    Code.wp Ybaf.prog (chain 35 (Ybaf.f3.body.getD .skip)) (Exit.inBlock 0 (bodyPost Ybaf.prog Ybaf.f3 fun e w' => e = .returned (.bool true) ∧ Below w0.heap.size w0 w'))
      ⟨#[u0, u1, u2, u3, .pointer (some ⟨A, 0, none⟩), u5, u6, u7, u8, u9, u10, .pointer (some ⟨D, 0, none⟩), u12, u13, u14, u15, u16, u17, u18, u19, u20, u21, u22, u23, u24, u25, u26, u27, u28, u29, u30, u31, u32, u33, u34, u35, u36, u37, u38, u39, u40, u41, u42, u43, u44, u45, u46, u47, u48, u49, u50, u51, u52, u53, u54, u55, u56, u57, u58, u59, u60, u61, u62, u63, u64, u65, u66, u67, u68, u69, u70, u71, u72, u73, u74, u75, u76, u77, u78, u79, u80, u81, u82, u83, u84, u85, u86, u87, u88, u89, u90, u91, u92, u93, u94, u95, u96, u97, u98, u99, u100, u101, u102, u103, u104, u105, u106, u107, u108, u109, u110, u111, u112, u113, u114, u115, u116, u117, u118, u119, u120, u121, u122, u123, u124, u125, u126, u127, u128, u129, u130, u131, u132, u133, u134, u135, u136, u137, u138, u139, u140, u141, u142, u143, u144, u145, u146, u147, u148, u149, u150, u151, u152, u153, u154, u155, u156, u157, u158, u159, u160, u161, u162, u163, u164, u165, u166, u167, u168, u169, u170, u171, u172, u173, u174, u175, u176, u177, u178, u179, u180, u181, u182, u183, u184, u185, u186, u187, u188, u189, u190, u191, u192, u193, u194, u195, u196, u197, u198, u199, u200, u201, u202, u203, u204, u205, u206, u207, u208, u209, u210, u211, u212, u213, u214, u215, u216, u217, u218, u219, u220, u221, u222, u223, u224, u225, u226, u227, u228, u229, u230, u231, u232, u233, u234, u235, u236, u237, u238, u239, u240, u241, u242, u243, u244, u245, u246, u247, u248, u249, u250, u251, u252, u253, u254, u255, u256, u257, u258, u259, u260, u261, u262, u263, u264, u265, u266, u267, u268, u269, u270, u271, u272, u273, u274, u275, u276, u277, u278, u279, u280, u281, u282, u283, u284, u285, u286, u287, u288, u289, u290, u291, u292, u293, u294, u295, u296, u297, u298, u299, u300, u301, u302, u303, u304, u305, u306, u307, u308, u309, u310, u311, u312, u313, u314, u315, u316, u317, u318, u319, u320, u321, u322, u323, u324, u325, u326, u327, u328, u329, u330, u331, u332, u333, u334, u335, u336, u337, u338, u339, u340, u341, u342, u343, u344, u345, u346, u347, u348, u349, u350, u351, u352, u353, u354, u355, u356, u357, u358, u359, u360, u361, u362, u363, u364, u365, u366, u367, u368, u369, u370, u371, u372, u373, u374, u375, u376, u377, u378, u379, u380, u381, u382, u383, u384, u385, u386, u387, u388, u389, u390, u391, u392, u393, u394, u395, u396, u397, u398, u399, u400, u401, u402, u403, u404, u405, u406, u407, u408, u409, u410, u411, u412, u413, u414, u415, u416, u417, u418, u419, u420, u421, u422, u423, u424, u425, u426, u427, u428, u429, u430, u431, u432, u433, u434, u435, u436, u437, u438], []⟩ V := by
  conv => arg 2; whnf
  have heq := fun (k : Nat) => equal_any (V.drewN k) pb p n cb c f (hsb.keep (fun b _ _ _ => rfl)) (hs.keep (fun b _ _ _ => rfl))
  have HEQ := show Hid _ from heq
  clear hs hsb heq
  go_wp2_with fail
  go_quiet ((go_at_call 5; go_must (exact Calls.quiet_of_same (HEQ.out _))))
  go_wp2
  go_ret
  exact ⟨rfl, below_drewN hb _⟩

end Go.Proofs.YbulkexnocFmt
