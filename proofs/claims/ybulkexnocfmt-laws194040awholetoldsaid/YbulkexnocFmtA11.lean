import Derived.Test.YbulkexnocFmtA16
import Derived.Deep.DeepCutAuto
import Derived.Laws.Tables
namespace Go.Proofs.YbulkexnocFmt
open Go.RowKit Go.Stop
set_option linter.unusedVariables false

/-- The fields of the decoder as the literal lays them. -/
def Laid (so su dep em : Int) (F : Nat → Value) : Prop :=
  F 0 = .slice none 0 0 ∧ F 1 = .int .i64 so ∧ F 2 = .int .u64 su ∧ F 3 = .int .i64 0 ∧ F 4 = .int .i64 (-1) ∧ F 5 = .int .i64 dep ∧ F 7 = .int .i64 0 ∧ F 8 = .int .u64 0 ∧ F 6 = .int .i64 em ∧ F 573 = .slice none 0 0 ∧ F 574 = .slice none 0 0

theorem Came.far {A : Nat} {so su dep : Int} {chk : Bool} {most : Int} {p : Option Addr} {n c : Nat} {base : Int} {V V' : World} (h : Came A so su dep chk most p n c base V) (e : V'.heap[A]? = V.heap[A]?) : Came A so su dep chk most p n c base V' := by
  have k : ∀ i, V'.cell? ⟨A, i, none⟩ = V.cell? ⟨A, i, none⟩ := fun i => World.cell?_of_block e
  unfold Came at h ⊢
  simpa only [k] using h

set_option maxRecDepth 100000 in
set_option maxHeartbeats 2000000 in
theorem a11 (Fi : Interp) (w0 W : World) (hFi : Fi.told.answers W.tape) (A D : Nat) (F : Nat → Value) (f : Nat → Int) (p pb : Option Addr) (n c cb : Nat) (so su dep most base em off used : Int) (chk : Bool) (hA : Came A so su dep chk most p n c base W)
    (hr : W.rowIs D 80 579 F) (hAD : A ≠ D) (hL : Laid so su dep em F) (hs : Sees W p n f) (hsb : Sees W pb n f) (hp : pb = none → n = 0 ∧ cb = 0) (hc : n ≤ cb) (hn : n ≤ 1048576)
    (hpD : ∀ b o, p = some ⟨b, o, none⟩ → 0 < n → b ≠ D) (hpbD : ∀ b o, pb = some ⟨b, o, none⟩ → 0 < n → b ≠ D)
    (hb : Below w0.heap.size w0 W) (hD0 : w0.heap.size ≤ D)
    (u0 u3 u5 u6 u7 u8 u12 u13 u14 u15 u16 u17 u18 u19 u20 u21 u22 u23 u24 u25 u26 u27 u28 u29 u30 u31 u32 u33 u34 u35 u36 u37 u38 u39 u40 u41 u42 u43 u44 u45 u46 u47 u48 u49 u50 u51 u52 u53 u54 u55 u56 u57 u58 u59 u60 u61 u62 u63 u64 u65 u66 u67 u68 u69 u70 u71 u72 u73 u74 u75 u76 u77 u78 u79 u80 u81 u82 u83 u84 u85 u86 u87 u88 u89 u90 u91 u92 u93 u94 u95 u96 u97 u98 u99 u100 u101 u102 u103 u104 u105 u106 u107 u108 u109 u110 u111 u112 u113 u114 u115 u116 u117 u118 u119 u120 u121 u122 u123 u124 u125 u126 u127 u128 u129 u130 u131 u132 u133 u134 u135 u136 u137 u138 u139 u140 u141 u142 u143 u144 u145 u146 u147 u148 u149 u150 u151 u152 u153 u154 u155 u156 u157 u158 u159 u160 u161 u162 u163 u164 u165 u166 u167 u168 u169 u170 u171 u172 u173 u174 u175 u176 u177 u178 u179 u180 u181 u182 u183 u184 u185 u186 u187 u188 u189 u190 u191 u192 u193 u194 u195 u196 u197 u198 u199 u200 u201 u202 u203 u204 u205 u206 u207 u208 u209 u210 u211 u212 u213 u214 u215 u216 u217 u218 u219 u220 u221 u222 u223 u224 u225 u226 u227 u228 u229 u230 u231 u232 u233 u234 u235 u236 u237 u238 u239 u240 u241 u242 u243 u244 u245 u246 u247 u248 u249 u250 u251 u252 u253 u254 u255 u256 u257 u258 u259 u260 u261 u262 u263 u264 u265 u266 u267 u268 u269 u270 u271 u272 u273 u274 u275 u276 u277 u278 u279 u280 u281 u282 u283 u284 u285 u286 u287 u288 u289 u290 u291 u292 u293 u294 u295 u296 u297 u298 u299 u300 u301 u302 u303 u304 u305 u306 u307 u308 u309 u310 u311 u312 u313 u314 u315 u316 u317 u318 u319 u320 u321 u322 u323 u324 u325 u326 u327 u328 u329 u330 u331 u332 u333 u334 u335 u336 u337 u338 u339 u340 u341 u342 u343 u344 u345 u346 u347 u348 u349 u350 u351 u352 u353 u354 u355 u356 u357 u358 u359 u360 u361 u362 u363 u364 u365 u366 u367 u368 u369 u370 u371 u372 u373 u374 u375 u376 u377 u378 u379 u380 u381 u382 u383 u384 u385 u386 u387 u388 u389 u390 u391 u392 u393 u394 u395 u396 u397 u398 u399 u400 u401 u402 u403 u404 u405 u406 u407 u408 u409 u410 u411 u412 u413 u414 u415 u416 u417 u418 u419 u420 u421 u422 u423 u424 u425 u426 u427 u428 u429 u430 u431 u432 u433 u434 u435 u436 u437 u438 : Value) :
    Code.wp Ybaf.prog (chain 11 (Ybaf.f3.body.getD .skip)) (bodyPost Ybaf.prog Ybaf.f3 fun e w' => e = .returned (.bool true) ∧ Below w0.heap.size w0 w')
      ⟨#[u0, .int .i64 off, .int .u64 used, u3, .pointer (some ⟨A, 0, none⟩), u5, u6, u7, u8, .int .i64 em, .slice pb n cb, .pointer (some ⟨D, 0, none⟩), u12, u13, u14, u15, u16, u17, u18, u19, u20, u21, u22, u23, u24, u25, u26, u27, u28, u29, u30, u31, u32, u33, u34, u35, u36, u37, u38, u39, u40, u41, u42, u43, u44, u45, u46, u47, u48, u49, u50, u51, u52, u53, u54, u55, u56, u57, u58, u59, u60, u61, u62, u63, u64, u65, u66, u67, u68, u69, u70, u71, u72, u73, u74, u75, u76, u77, u78, u79, u80, u81, u82, u83, u84, u85, u86, u87, u88, u89, u90, u91, u92, u93, u94, u95, u96, u97, u98, u99, u100, u101, u102, u103, u104, u105, u106, u107, u108, u109, u110, u111, u112, u113, u114, u115, u116, u117, u118, u119, u120, u121, u122, u123, u124, u125, u126, u127, u128, u129, u130, u131, u132, u133, u134, u135, u136, u137, u138, u139, u140, u141, u142, u143, u144, u145, u146, u147, u148, u149, u150, u151, u152, u153, u154, u155, u156, u157, u158, u159, u160, u161, u162, u163, u164, u165, u166, u167, u168, u169, u170, u171, u172, u173, u174, u175, u176, u177, u178, u179, u180, u181, u182, u183, u184, u185, u186, u187, u188, u189, u190, u191, u192, u193, u194, u195, u196, u197, u198, u199, u200, u201, u202, u203, u204, u205, u206, u207, u208, u209, u210, u211, u212, u213, u214, u215, u216, u217, u218, u219, u220, u221, u222, u223, u224, u225, u226, u227, u228, u229, u230, u231, u232, u233, u234, u235, u236, u237, u238, u239, u240, u241, u242, u243, u244, u245, u246, u247, u248, u249, u250, u251, u252, u253, u254, u255, u256, u257, u258, u259, u260, u261, u262, u263, u264, u265, u266, u267, u268, u269, u270, u271, u272, u273, u274, u275, u276, u277, u278, u279, u280, u281, u282, u283, u284, u285, u286, u287, u288, u289, u290, u291, u292, u293, u294, u295, u296, u297, u298, u299, u300, u301, u302, u303, u304, u305, u306, u307, u308, u309, u310, u311, u312, u313, u314, u315, u316, u317, u318, u319, u320, u321, u322, u323, u324, u325, u326, u327, u328, u329, u330, u331, u332, u333, u334, u335, u336, u337, u338, u339, u340, u341, u342, u343, u344, u345, u346, u347, u348, u349, u350, u351, u352, u353, u354, u355, u356, u357, u358, u359, u360, u361, u362, u363, u364, u365, u366, u367, u368, u369, u370, u371, u372, u373, u374, u375, u376, u377, u378, u379, u380, u381, u382, u383, u384, u385, u386, u387, u388, u389, u390, u391, u392, u393, u394, u395, u396, u397, u398, u399, u400, u401, u402, u403, u404, u405, u406, u407, u408, u409, u410, u411, u412, u413, u414, u415, u416, u417, u418, u419, u420, u421, u422, u423, u424, u425, u426, u427, u428, u429, u430, u431, u432, u433, u434, u435, u436, u437, u438], []⟩ W := by
  conv => arg 2; whnf
  have hDA : D ≠ A := fun h => hAD h.symm
  have HA := show Hid _ from hA
  have HR := show Hid _ from hr
  have HL := show Hid _ from hL
  have HSS := show Hid _ from And.intro hs hsb
  have HN := show Hid _ from And.intro hn (And.intro hp hc)
  have HP := show Hid _ from And.intro hpD hpbD
  have HF := show Hid _ from hFi
  obtain ⟨s0, s1, s4, s5, s6, s7, s8⟩ := hA
  have c575 := hr.cell (show 575 < 579 by omega)
  have c576 := hr.cell (show 576 < 579 by omega)
  have c577 := hr.cell (show 577 < 579 by omega)
  have c578 := hr.cell (show 578 < 579 by omega)
  have f578 := hr.frozen 578
  have f577 := hr.frozen 577
  have f575 := hr.frozen 575
  have f576 := hr.frozen 576
  have hlt := hr.lt
  have hAlt := lt_of_cell s0
  clear hr hL hs hsb hn hp hc hpD hpbD hFi s0 s1 s4 s7
  go_upto_region 15 with (fail)
  rename_i Kx hKx
  have HK := show Hid _ from hKx
  clear hKx
  go_wp2_with fail
  have hrow := ((((rowIs_of HR.out).set 578 (.bool chk)).set 577 (.int .i64 most)).set 575 (.slice pb n cb)).set 576 (.int .i64 base)
  obtain ⟨l0, l1, l2, l3, l4, l5, l7, l8, l6, l573, l574⟩ := HL.out
  have hbs := ((((Below.refl D W).setCell (p := ⟨D, 578, none⟩) (Nat.le_refl _) (.bool chk)).setCell (p := ⟨D, 577, none⟩) (Nat.le_refl _) (.int .i64 most)).setCell (p := ⟨D, 575, none⟩) (Nat.le_refl _) (.slice pb n cb)).setCell (p := ⟨D, 576, none⟩) (Nat.le_refl _) (.int .i64 base)
  refine (counted_any (base := base) (most := most) (chk := chk) (p := pb) (n := n) (c := cb) (em := em) Fi (by rw [hbs.tape]; exact HF.out) hrow (by simp [l573]) (by simp [l574]) (by simp) (by simp) (by simp) (by simp) (by simpa using l6) so off su used (by simpa using l1) (by simpa using l2) HN.out.2.1 HN.out.2.2).mono ?_
  rintro e w' ⟨hb1, hsame, hC⟩
  obtain ⟨ev, rfl⟩ : ∃ ev, e = .returned ev := by
    rcases hC with ⟨_, h, _⟩ | ⟨_, _, h, _⟩ | ⟨_, _, g, h, _⟩ <;> exact ⟨_, h⟩
  have HC := show Hid _ from hC
  clear hC
  have hfar : ∀ b, b < W.heap.size → b ≠ D → w'.heap[b]? = W.heap[b]? := fun b h1 h2 => by
    rw [hsame b (by simpa using h1) h2]
    repeat rw [Below.heap_setCell _ _ _ _ h2]
  have hbw : Below w0.heap.size w0 w' := (hb.trans (hbs.mono hD0)).trans (hb1.mono hD0)
  clear hb1 hsame
  have HFAR := show Hid _ from hfar
  clear hfar
  dsimp only
  go_wp2_with fail
  refine HK.out _ _ ?_
  have hsl : ∀ (q : Option Addr), Sees W q n f → (∀ b o, q = some ⟨b, o, none⟩ → 0 < n → b ≠ D) → Sees w' q n f := fun q h1 h2 => by
    refine h1.keep fun b o e h0 => ?_
    refine HFAR.out b ?_ (h2 b o e h0)
    rcases h1 with h1 | ⟨b', o', e', h1⟩
    · omega
    · rw [e'] at e
      cases e
      exact lt_of_cell (h1 0 h0)
  apply a16 w0 w' A D _ f p pb n c cb so su dep most base em off used chk ev (Came.far HA.out (HFAR.out _ hAlt hAD)) HC.out (by exact ⟨by simpa using l0, by simpa using l1, by simpa using l2, by simpa using l3, by simpa using l4, by simpa using l5, by simpa using l7, by simpa using l8⟩) (hsl p HSS.out.1 HP.out.1) (hsl pb HSS.out.2 HP.out.2) HN.out.1 hbw
end Go.Proofs.YbulkexnocFmt
