import Derived.Test.YbulkexnnoT3
namespace Go.Proofs.Ybulkexnno
open Go.RowKit
set_option linter.unusedVariables false

theorem upto {f : Nat → Value} {z : Value} (k : Nat) : ∀ j, (if j = k then f k else if j < k then f j else z) = if j < k + 1 then f j else z := by
  intro j
  by_cases e : j = k
  · subst e; simp
  · by_cases l : j < k
    · simp [e, l, Nat.lt_succ_of_lt l]
    · have : ¬ j < k + 1 := by omega
      simp [e, l, this]

set_option maxHeartbeats 1000000 in
set_option maxRecDepth 100000 in
theorem t2 (w0 W : World) (κ : Nat → Int) (π : Nat → Bool) (Pb : Nat → Nat) (f2 : Nat → Nat) (p2 p3 p4 : Option Addr) (n2 c2 C c3 n4 c4 U PB N : Nat) (f4 : Nat → Nat) (Ar : Nat → Option Addr) (Ln Cp : Nat → Nat) (Z : Nat → Nat → Nat) (hb : Below w0.heap.size w0 W)
    (htu : IsT W U (κ U) (π U)) (bC : C ≤ 256) (b4 : n4 ≤ 4096)
    (h3 : SeesS W p3 C Ar Ln Cp Z) (hZ : ∀ c i, Z c i < 256) (hLn : ∀ c, Ln c ≤ 9223372036854775807)
    (h4 : Sees W p4 n4 (fun i => .int .u8 (f4 i))) (hf4 : ∀ i, f4 i < 256)
    (hp : Pool κ π PB N Pb W) (h2 : Sees W p2 n2 (fun i => .int .u8 (f2 i))) (hf2 : ∀ i, f2 i < 256) (b2 : n2 ≤ 256) (hN : 0 < N) (hN2 : N ≤ 257)
    (u0 u1 u5 u6 u7 u8 u9 u10 u13 u14 u15 u16 u17 u18 u19 u20 u21 u22 u23 u24 u25 u26 u27 u28 u29 u30 u31 u32 u33 u34 u35 u36 u37 u38 u39 u40 u41 u42 u43 u44 u45 u46 u47 u48 u49 u50 u51 u52 u53 u54 u55 u56 u57 u58 u59 u60 u61 u62 u63 u64 u65 u66 u67 u68 u69 u70 u71 u72 u73 u74 u75 u76 u77 u78 u79 u80 u81 u82 u83 u84 u85 u86 u87 u88 u89 u90 u91 u92 u93 u94 u95 u96 u97 u98 u99 u100 u101 u102 u103 u104 u105 u106 u107 u108 u109 u110 u111 u112 u113 u114 u115 u116 u117 u118 u119 u120 u121 u122 u123 u124 u125 u126 u127 u128 u129 u130 u131 u132 u133 u134 u135 u136 u137 u138 u139 u140 u141 u142 u143 u144 u145 u146 u147 u148 u149 u150 u151 u152 u153 u154 u155 u156 u157 u158 u159 u160 u161 u162 u163 u164 u165 u166 u167 u168 u169 u170 u171 u172 u173 u174 u175 u176 u177 u178 u179 u180 u181 u182 u183 u184 u185 u186 u187 u188 u189 u190 u191 u192 u193 u194 u195 u196 u197 u198 u199 u200 u201 u202 u203 u204 u205 u206 u207 u208 u209 u210 u211 u212 u213 u214 u215 u216 u217 u218 u219 u220 u221 u222 u223 u224 u225 u226 u227 u228 u229 u230 u231 u232 u233 u234 u235 u236 u237 u238 u239 u240 u241 u242 u243 u244 u245 u246 u247 u248 u249 u250 u251 u252 u253 u254 u255 u256 u257 u258 u259 u260 u261 u262 u263 u264 u265 u266 u267 u268 u269 u270 u271 u272 u273 u274 u275 u276 u277 u278 u279 u280 u281 u282 u283 u284 u285 u286 u287 u288 u289 u290 u291 u292 u293 u294 u295 u296 u297 u298 u299 u300 u301 u302 u303 u304 u305 u306 u307 u308 u309 u310 u311 u312 u313 u314 u315 u316 u317 u318 u319 u320 u321 u322 u323 u324 u325 u326 u327 u328 u329 u330 u331 u332 u333 u334 u335 u336 u337 u338 u339 u340 u341 u342 u343 u344 u345 u346 u347 u348 u349 u350 u351 u352 u353 u354 u355 u356 u357 u358 u359 u360 u361 u362 u363 u364 u365 u366 u367 u368 u369 u370 u371 u372 u373 u374 u375 u376 u377 u378 u379 u380 u381 u382 u383 u384 : Value) :
    Code.wp Yba.prog (dropTo 11 (Yba.f3.body.getD .skip)) (bodyPost Yba.prog Yba.f3 fun e w' => e = .returned (.bool true) ∧ Below w0.heap.size w0 w')
      ⟨#[u0, u1, .slice p2 n2 c2, .slice p3 C c3, .slice p4 n4 c4, u5, u6, u7, u8, u9, u10, .pointer (some ⟨U, 0, none⟩), .slice (some ⟨PB, 0, none⟩) N N, u13, u14, u15, u16, u17, u18, u19, u20, u21, u22, u23, u24, u25, u26, u27, u28, u29, u30, u31, u32, u33, u34, u35, u36, u37, u38, u39, u40, u41, u42, u43, u44, u45, u46, u47, u48, u49, u50, u51, u52, u53, u54, u55, u56, u57, u58, u59, u60, u61, u62, u63, u64, u65, u66, u67, u68, u69, u70, u71, u72, u73, u74, u75, u76, u77, u78, u79, u80, u81, u82, u83, u84, u85, u86, u87, u88, u89, u90, u91, u92, u93, u94, u95, u96, u97, u98, u99, u100, u101, u102, u103, u104, u105, u106, u107, u108, u109, u110, u111, u112, u113, u114, u115, u116, u117, u118, u119, u120, u121, u122, u123, u124, u125, u126, u127, u128, u129, u130, u131, u132, u133, u134, u135, u136, u137, u138, u139, u140, u141, u142, u143, u144, u145, u146, u147, u148, u149, u150, u151, u152, u153, u154, u155, u156, u157, u158, u159, u160, u161, u162, u163, u164, u165, u166, u167, u168, u169, u170, u171, u172, u173, u174, u175, u176, u177, u178, u179, u180, u181, u182, u183, u184, u185, u186, u187, u188, u189, u190, u191, u192, u193, u194, u195, u196, u197, u198, u199, u200, u201, u202, u203, u204, u205, u206, u207, u208, u209, u210, u211, u212, u213, u214, u215, u216, u217, u218, u219, u220, u221, u222, u223, u224, u225, u226, u227, u228, u229, u230, u231, u232, u233, u234, u235, u236, u237, u238, u239, u240, u241, u242, u243, u244, u245, u246, u247, u248, u249, u250, u251, u252, u253, u254, u255, u256, u257, u258, u259, u260, u261, u262, u263, u264, u265, u266, u267, u268, u269, u270, u271, u272, u273, u274, u275, u276, u277, u278, u279, u280, u281, u282, u283, u284, u285, u286, u287, u288, u289, u290, u291, u292, u293, u294, u295, u296, u297, u298, u299, u300, u301, u302, u303, u304, u305, u306, u307, u308, u309, u310, u311, u312, u313, u314, u315, u316, u317, u318, u319, u320, u321, u322, u323, u324, u325, u326, u327, u328, u329, u330, u331, u332, u333, u334, u335, u336, u337, u338, u339, u340, u341, u342, u343, u344, u345, u346, u347, u348, u349, u350, u351, u352, u353, u354, u355, u356, u357, u358, u359, u360, u361, u362, u363, u364, u365, u366, u367, u368, u369, u370, u371, u372, u373, u374, u375, u376, u377, u378, u379, u380, u381, u382, u383, u384], []⟩ W := by
  conv => arg 2; whnf
  have HF4 := show Hid (∀ i, f4 i < 256) from hf4
  have HZ3 := show Hid (∀ c i, Z c i < 256) from hZ
  have HLn := show Hid (∀ c, Ln c ≤ 9223372036854775807) from hLn
  have HF := show Hid (∀ i, f2 i < 256) from hf2
  clear hf4 hZ hLn hf2
  have mk1 := run_make_row' (P := Yba.prog) 23 5 (.int .u8 0) 1 Yba.underlying23 Yba.info5 rfl .i64 .i64 N (by omega) (by omega)
  have mk2 := run_make_row' (P := Yba.prog) 34 4 (.bool false) 1 Yba.underlying34 Yba.info4 rfl .i64 .i64 N (by omega) (by omega)
  go_wp2_with fail
  go_loopw [108] (fun i wr => ∃ k : Nat, k ≤ N ∧ i = .int .i64 k ∧ Below W.heap.size W wr ∧ W.heap.size + 2 ≤ wr.heap.size ∧
      wr.rowIs W.heap.size 5 N (fun j => if j < k then .int .u8 (κ (Pb j)) else .int .u8 0) ∧ wr.rowIs (W.heap.size + 1) 4 N (fun j => if j < k then .bool (π (Pb j)) else .bool false)) (fun i _ => N - (intOf i).toNat)
  case atStart =>
    refine ⟨0, Nat.zero_le _, rfl, below_two _ _ _, by simp, ((World.rowIs_made W (.int .u8 0) N 5).alloc _).congr (fun i _ => by simp), ?_⟩
    have := World.rowIs_made (W.alloc (.cells (madeCells #[.int .u8 0] N) 5)) (.bool false) N 4
    rw [show (W.alloc (.cells (madeCells #[.int .u8 0] N) 5)).heap.size = W.heap.size + 1 by simp] at this
    exact this.congr (fun i _ => by simp)
  case round =>
    rename_i Kx hKx
    have HK := show Hid _ from hKx
    clear hKx
    obtain ⟨k, hk, rfl, hbel, hsz, hr1, hr2⟩ := hrel
    by_cases hlt : k < N
    · have hT := hp.isT k hlt
      have g1 := cell_later hbel (hp.row.cell hlt)
      have g2 := cell_later hbel hT.cat
      have g3 := cell_later hbel hT.pref
      have hPk : Pb k < W.heap.size := hT.lt
      obtain ⟨s1, f1⟩ : wr.cell? ⟨W.heap.size, k, none⟩ = some (.int .u8 0) ∧ wr.frozen? ⟨W.heap.size, k, none⟩ = false := ⟨by rw [hr1.cell hlt]; simp, hr1.frozen k⟩
      obtain ⟨s2, f2'⟩ : wr.cell? ⟨W.heap.size + 1, k, none⟩ = some (.bool false) ∧ wr.frozen? ⟨W.heap.size + 1, k, none⟩ = false := ⟨by rw [hr2.cell hlt]; simp, hr2.frozen k⟩
      have g3' : (wr.setCell ⟨W.heap.size, k, none⟩ (.int .u8 (κ (Pb k)))).cell? ⟨Pb k, 5, none⟩ = some (.bool (π (Pb k))) := cell_setCell_block g3 (by omega)
      have s2' : (wr.setCell ⟨W.heap.size, k, none⟩ (.int .u8 (κ (Pb k)))).cell? ⟨W.heap.size + 1, k, none⟩ = some (.bool false) := cell_setCell_block s2 (by omega)
      have R1 := (((hr1.set k (.int .u8 (κ (Pb k)))).setOther (a := ⟨W.heap.size + 1, k, none⟩) (by show W.heap.size ≠ W.heap.size + 1; omega) (.bool (π (Pb k)))).congr (fun j _ => upto (f := fun j => .int .u8 (κ (Pb j))) k j))
      have R2 := (((hr2.setOther (a := ⟨W.heap.size, k, none⟩) (by show W.heap.size + 1 ≠ W.heap.size; omega) (.int .u8 (κ (Pb k)))).set k (.bool (π (Pb k)))).congr (fun j _ => upto (f := fun j => .bool (π (Pb j))) k j))
      have hb2 : Below W.heap.size W ((wr.setCell ⟨W.heap.size, k, none⟩ (.int .u8 (κ (Pb k)))).setCell ⟨W.heap.size + 1, k, none⟩ (.bool (π (Pb k)))) :=
        (hbel.setCell (p := ⟨W.heap.size, k, none⟩) (Nat.le_refl _) _).setCell (p := ⟨W.heap.size + 1, k, none⟩) (by show W.heap.size ≤ W.heap.size + 1; omega) _
      clear hr1 hr2
      go_wp2_with fail
      go_roundw
      case rel => exact ⟨k + 1, by omega, by go_num, hb2, by simpa using hsz, R1, R2⟩
      case measure => simp [intOf]; omega
    · obtain rfl : N = k := by omega
      go_wp2_with fail
      refine HK.out _ _ ?_
      apply t3 w0 wr κ π Pb f2 p2 p3 p4 n2 c2 C c3 n4 c4 U PB W.heap.size (W.heap.size + 1) N f4 Ar Ln Cp Z (below_next hb hbel) (hr1.congr (fun j hj => by simp [hj])) (hr2.congr (fun j hj => by simp [hj])) (htu.later hbel) bC b4 (h3.later hbel) HZ3.out HLn.out (h4.later hbel) HF4.out (hp.later hbel) (h2.later hbel) HF.out b2 hN hN2
end Go.Proofs.Ybulkexnno
