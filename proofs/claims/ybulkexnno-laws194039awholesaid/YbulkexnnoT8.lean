import Derived.Test.YbulkexnnoBase
namespace Go.Proofs.Ybulkexnno
open Go.RowKit
set_option linter.unusedVariables false
variable {κ : Nat → Int} {π : Nat → Bool} {M a u AT CT C A : Nat} {Ab Rb : Nat → Nat} {Qb : Nat → Nat → Nat}

/-- The copies of the candidates' rows. -/
structure Copies (CC C A : Nat) (Sb Sc : Nat → Nat) (Qb : Nat → Nat → Nat) (W : World) : Prop where
  cell : ∀ c, c < C → W.cell? ⟨CC, c, none⟩ = some (.slice (some ⟨Sb c, 0, none⟩) A (Sc c))
  par : ∀ c i, c < C → i < A → W.cell? ⟨Sb c, i, none⟩ = some (.pointer (some ⟨Qb c i, 0, none⟩))
theorem Copies.later {CC C A : Nat} {Sb Sc : Nat → Nat} {Qb : Nat → Nat → Nat} {W W' : World} (h : Copies CC C A Sb Sc Qb W) (hb : Below W.heap.size W W') : Copies CC C A Sb Sc Qb W' :=
  ⟨fun c hc => cell_later hb (h.cell c hc), fun c i hc hi => cell_later hb (h.par c i hc hi)⟩

set_option maxHeartbeats 1000000 in
set_option maxRecDepth 100000 in
theorem t8 (w0 W : World) (Pb Sb Sc : Nat → Nat) (PB CB RB N CC : Nat) (hb : Below w0.heap.size w0 W)
    (hp : Pool κ π PB N Pb W) (hc : W.rowIs CB 5 N (fun i => .int .u8 (κ (Pb i)))) (hr : W.rowIs RB 4 N (fun i => .bool (π (Pb i))))
    (hl : Laid κ π M a u AT CT C A Ab Rb Qb W) (hs : Copies CC C A Sb Sc Qb W) (bN : N ≤ 257) (bC : C ≤ 256) (bA : A ≤ 256)
    (u0 u1 u2 u3 u4 u5 u6 u7 u8 u9 u10 u11 u13 u14 u17 u18 u19 u20 u21 u22 u24 u25 u26 u27 u28 u29 u30 u31 u32 u33 u35 u36 u37 u38 u39 u40 u41 u42 u43 u44 u45 u46 u47 u48 u49 u50 u51 u52 u53 u54 u55 u56 u57 u58 u59 u60 u61 u62 u63 u64 u65 u66 u67 u68 u69 u70 u71 u72 u73 u74 u75 u76 u77 u78 u79 u80 u81 u82 u83 u84 u85 u86 u87 u88 u89 u90 u91 u92 u93 u94 u95 u96 u97 u98 u99 u100 u101 u102 u103 u104 u105 u106 u107 u108 u109 u110 u111 u112 u113 u114 u115 u116 u117 u118 u119 u120 u121 u122 u123 u124 u125 u126 u127 u128 u129 u130 u131 u132 u133 u134 u135 u136 u137 u138 u139 u140 u141 u142 u143 u144 u145 u146 u147 u148 u149 u150 u151 u152 u153 u154 u155 u156 u157 u158 u159 u160 u161 u162 u163 u164 u165 u166 u167 u168 u169 u170 u171 u172 u173 u174 u175 u176 u177 u178 u179 u180 u181 u182 u183 u184 u185 u186 u187 u188 u189 u190 u191 u192 u193 u194 u195 u196 u197 u198 u199 u200 u201 u202 u203 u204 u205 u206 u207 u208 u209 u210 u211 u212 u213 u214 u215 u216 u217 u218 u219 u220 u221 u222 u223 u224 u225 u226 u227 u228 u229 u230 u231 u232 u233 u234 u235 u236 u237 u238 u239 u240 u241 u242 u243 u244 u245 u246 u247 u248 u249 u250 u251 u252 u253 u254 u255 u256 u257 u258 u259 u260 u261 u262 u263 u264 u265 u266 u267 u268 u269 u270 u271 u272 u273 u274 u275 u276 u277 u278 u279 u280 u281 u282 u283 u284 u285 u286 u287 u288 u289 u290 u291 u292 u293 u294 u295 u296 u297 u298 u299 u300 u301 u302 u303 u304 u305 u306 u307 u308 u309 u310 u311 u312 u313 u314 u315 u316 u317 u318 u319 u320 u321 u322 u323 u324 u325 u326 u327 u328 u329 u330 u331 u332 u333 u334 u335 u336 u337 u338 u339 u340 u341 u342 u343 u344 u345 u346 u347 u348 u349 u350 u351 u352 u353 u354 u355 u356 u357 u358 u359 u360 u361 u362 u363 u364 u365 u366 u367 u368 u369 u370 u371 u372 u373 u374 u375 u376 u377 u378 u379 u380 u381 u382 u383 u384 : Value) :
    Code.wp Yba.prog (dropTo 84 (Yba.f3.body.getD .skip)) (bodyPost Yba.prog Yba.f3 fun e w' => e = .returned (.bool true) ∧ Below w0.heap.size w0 w')
      ⟨#[u0, u1, u2, u3, u4, u5, u6, u7, u8, u9, u10, u11, .slice (some ⟨PB, 0, none⟩) N N, u13, u14, .slice (some ⟨CB, 0, none⟩) N N, .slice (some ⟨RB, 0, none⟩) N N, u17, u18, u19, u20, u21, u22, .slice (some ⟨CC, 0, none⟩) C C, u24, u25, u26, u27, u28, u29, u30, u31, u32, u33, .pointer (some ⟨M, 0, none⟩), u35, u36, u37, u38, u39, u40, u41, u42, u43, u44, u45, u46, u47, u48, u49, u50, u51, u52, u53, u54, u55, u56, u57, u58, u59, u60, u61, u62, u63, u64, u65, u66, u67, u68, u69, u70, u71, u72, u73, u74, u75, u76, u77, u78, u79, u80, u81, u82, u83, u84, u85, u86, u87, u88, u89, u90, u91, u92, u93, u94, u95, u96, u97, u98, u99, u100, u101, u102, u103, u104, u105, u106, u107, u108, u109, u110, u111, u112, u113, u114, u115, u116, u117, u118, u119, u120, u121, u122, u123, u124, u125, u126, u127, u128, u129, u130, u131, u132, u133, u134, u135, u136, u137, u138, u139, u140, u141, u142, u143, u144, u145, u146, u147, u148, u149, u150, u151, u152, u153, u154, u155, u156, u157, u158, u159, u160, u161, u162, u163, u164, u165, u166, u167, u168, u169, u170, u171, u172, u173, u174, u175, u176, u177, u178, u179, u180, u181, u182, u183, u184, u185, u186, u187, u188, u189, u190, u191, u192, u193, u194, u195, u196, u197, u198, u199, u200, u201, u202, u203, u204, u205, u206, u207, u208, u209, u210, u211, u212, u213, u214, u215, u216, u217, u218, u219, u220, u221, u222, u223, u224, u225, u226, u227, u228, u229, u230, u231, u232, u233, u234, u235, u236, u237, u238, u239, u240, u241, u242, u243, u244, u245, u246, u247, u248, u249, u250, u251, u252, u253, u254, u255, u256, u257, u258, u259, u260, u261, u262, u263, u264, u265, u266, u267, u268, u269, u270, u271, u272, u273, u274, u275, u276, u277, u278, u279, u280, u281, u282, u283, u284, u285, u286, u287, u288, u289, u290, u291, u292, u293, u294, u295, u296, u297, u298, u299, u300, u301, u302, u303, u304, u305, u306, u307, u308, u309, u310, u311, u312, u313, u314, u315, u316, u317, u318, u319, u320, u321, u322, u323, u324, u325, u326, u327, u328, u329, u330, u331, u332, u333, u334, u335, u336, u337, u338, u339, u340, u341, u342, u343, u344, u345, u346, u347, u348, u349, u350, u351, u352, u353, u354, u355, u356, u357, u358, u359, u360, u361, u362, u363, u364, u365, u366, u367, u368, u369, u370, u371, u372, u373, u374, u375, u376, u377, u378, u379, u380, u381, u382, u383, u384], []⟩ W := by
  conv => arg 2; whnf
  go_wp2_with fail
  go_loopg [340] C (fun g i wr => ∃ k : Nat, k ≤ C ∧ C - k ≤ g ∧ i = .int .i64 k ∧ wr.heap = W.heap ∧ Below w0.heap.size w0 wr)
  case atStart => exact ⟨0, Nat.zero_le _, by omega, rfl, rfl, hb⟩
  case round =>
    obtain ⟨k, hk, hg, rfl, hh, hbr⟩ := hrel
    have HH : Hid (wr.heap = W.heap) := hh
    clear hh
    by_cases hlt : k < C
    · have m1 := (cell_heap HH.out _).trans hl.m1
      have c1 := (cell_heap HH.out _).trans (hl.cand k hlt)
      have c2 := (cell_heap HH.out _).trans (hs.cell k hlt)
      have he := fun (V : World) (hV : V.heap = W.heap) => eq_ptrs (some ⟨Rb k, 0, none⟩) (some ⟨Sb k, 0, none⟩) A A (Sc k) (fun i => Qb k i) V (by omega) (fun i hi => ⟨_, _, (hl.tp k i hlt hi).heap hV⟩)
        (.inr ⟨_, _, rfl, fun i hi => by rw [cell_heap hV]; simpa using hl.par k i hlt hi⟩) (.inr ⟨_, _, rfl, fun i hi => by rw [cell_heap hV]; simpa using hs.par k i hlt hi⟩)
      go_wp2_with fail
      go_quiet ((go_at_call 9; go_must (exact Calls.quiet_of (he _ HH.out))))
      go_wp2_with fail
      go_roundg (C - (k + 1))
      case measure => omega
      case rel => exact ⟨k + 1, by omega, by omega, by go_num, HH.out, below_drewN hbr _⟩
    · go_wp2_with fail
      go_loopg [359] N (fun g i wr => ∃ k : Nat, k ≤ N ∧ N - k ≤ g ∧ i = .int .i64 k ∧ wr.heap = W.heap ∧ Below w0.heap.size w0 wr)
      case atStart => exact ⟨0, Nat.zero_le _, by omega, rfl, HH.out, hbr⟩
      case round =>
        obtain ⟨j, hj, hg2, rfl, hh2, hbr2⟩ := hrel
        have HH2 : Hid (wr.heap = W.heap) := hh2
        clear hh2
        by_cases hlt2 : j < N
        · have g1 := (cell_heap HH2.out _).trans (hp.row.cell hlt2)
          have g2 := (cell_heap HH2.out _).trans (hp.isT j hlt2).cat
          have g3 := (cell_heap HH2.out _).trans (hp.isT j hlt2).pref
          have g4 := (cell_heap HH2.out _).trans (hc.cell hlt2)
          have g5 := (cell_heap HH2.out _).trans (hr.cell hlt2)
          generalize κ (Pb j) = kj at *
          generalize π (Pb j) = pj at *
          go_wp2_with fail
          go_quiet (fail)
          go_wp2_with fail
          go_roundg (N - (j + 1))
          case measure => omega
          case rel => exact ⟨j + 1, by omega, by omega, by go_num, HH2.out, below_drewN hbr2 _⟩
        · go_wp2
          go_ret
          exact ⟨rfl, hbr2⟩
end Go.Proofs.Ybulkexnno
