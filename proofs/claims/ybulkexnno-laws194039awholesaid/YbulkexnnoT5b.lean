import Derived.Test.YbulkexnnoT6
namespace Go.Proofs.Ybulkexnno
open Go.RowKit
set_option linter.unusedVariables false
variable {κ : Nat → Int} {π : Nat → Bool} {M a u AT CT C A : Nat} {Ab Rb : Nat → Nat} {Qb : Nat → Nat → Nat}

/-- The rows without the receiver. -/
structure Laid0 (κ : Nat → Int) (π : Nat → Bool) (u AT CT C A : Nat) (Ab Rb : Nat → Nat) (Qb : Nat → Nat → Nat) (w : World) : Prop where
  arg : ∀ i, i < A → w.cell? ⟨AT, i, none⟩ = some (.pointer (some ⟨Ab i, 0, none⟩))
  cand : ∀ c, c < C → w.cell? ⟨CT, c, none⟩ = some (.slice (some ⟨Rb c, 0, none⟩) A A)
  par : ∀ c i, c < C → i < A → w.cell? ⟨Rb c, i, none⟩ = some (.pointer (some ⟨Qb c i, 0, none⟩))
  tu : IsT w u (κ u) (π u)
  ta : ∀ i, i < A → IsT w (Ab i) (κ (Ab i)) (π (Ab i))
  tp : ∀ c i, c < C → i < A → IsT w (Qb c i) (κ (Qb c i)) (π (Qb c i))
theorem Laid0.later {w w' : World} (h : Laid0 κ π u AT CT C A Ab Rb Qb w) (hb : Below w.heap.size w w') : Laid0 κ π u AT CT C A Ab Rb Qb w' :=
  ⟨fun i hi => cell_later hb (h.arg i hi), fun c hc => cell_later hb (h.cand c hc),
   fun c i hc hi => cell_later hb (h.par c i hc hi), h.tu.later hb, fun i hi => (h.ta i hi).later hb, fun c i hc hi => (h.tp c i hc hi).later hb⟩

/-- The list of candidates left: nil, or a row of the call's own. -/
def Lst (w : World) (pl : Option Addr) (nl cl : Nat) (L : Nat → Nat) : Prop :=
  (pl = none ∧ nl = 0 ∧ cl = 0) ∨ ∃ LB, pl = some ⟨LB, 0, none⟩ ∧ LB < w.heap.size ∧ ∀ j, j < nl → w.cell? ⟨LB, j, none⟩ = some (.int .i64 (L j))
theorem Lst.sees {w : World} {pl : Option Addr} {nl cl : Nat} {L : Nat → Nat} (h : Lst w pl nl cl L) : Sees w pl nl (fun j => .int .i64 (L j)) := by
  rcases h with ⟨_, h, _⟩ | ⟨LB, e, _, h⟩
  · exact .inl h
  · exact .inr ⟨LB, 0, e, fun i hi => by simpa using h i hi⟩

theorem clone_l (w : World) (pl : Option Addr) (nl cl : Nat) (L : Nat → Nat) (hn : nl ≤ 4096) (h : Lst w pl nl cl L) :
    Calls Yba.prog 5 #[.slice pl nl cl] w fun e w' => ∃ pq cq, e = .returned (.slice pq nl cq) ∧ Sees w' pq nl (fun j => .int .i64 (L j)) ∧ Below w.heap.size w w' := by
  rcases h with ⟨rfl, rfl, rfl⟩ | ⟨LB, rfl, hb, h⟩
  · exact (clone_nil w).mono fun e w' ⟨h1, h2⟩ => ⟨none, 0, h1, .inl rfl, h2 ▸ Below.refl _ _⟩
  · refine (clone_ints LB 0 nl cl (fun j => L j) w hn (fun i hi => by simpa using h i hi) hb).mono fun e w' ⟨g, cap, h1, h2, h3, h4⟩ => ⟨_, cap, h1, .inr ⟨g, 0, rfl, fun i hi => by simpa using h3 i hi⟩, h4⟩

theorem below_two (w : World) (o1 o2 : Obj) : Below w.heap.size w ((w.alloc o1).alloc o2) := ((Below.refl _ _).alloc (Nat.le_refl _) _).alloc (by simp) _

theorem laid_boxed (w2 : World) (cs : Array Value) (hcs : cs[1]? = some (.pointer (some ⟨u, 0, none⟩))) (h : Laid0 κ π u AT CT C A Ab Rb Qb w2) :
    Laid κ π (w2.heap.size + 1) w2.heap.size u AT CT C A Ab Rb Qb ((w2.alloc (.cells cs 49)).alloc (.cells #[.pointer (some ⟨w2.heap.size, 0, none⟩), .slice (some ⟨CT, 0, none⟩) C C, .slice (some ⟨AT, 0, none⟩) A A] 51)) := by
  have hb := below_two w2 (.cells cs 49) (.cells #[.pointer (some ⟨w2.heap.size, 0, none⟩), .slice (some ⟨CT, 0, none⟩) C C, .slice (some ⟨AT, 0, none⟩) A A] 51)
  have h' := h.later hb
  have n2 : ((w2.alloc (.cells cs 49)).alloc (.cells #[.pointer (some ⟨w2.heap.size, 0, none⟩), .slice (some ⟨CT, 0, none⟩) C C, .slice (some ⟨AT, 0, none⟩) A A] 51)).heap[w2.heap.size + 1]? = some (.cells #[.pointer (some ⟨w2.heap.size, 0, none⟩), .slice (some ⟨CT, 0, none⟩) C C, .slice (some ⟨AT, 0, none⟩) A A] 51 (0, 0)) := by
    have := heap_alloc_new (w2.alloc (.cells cs 49)) (.cells #[.pointer (some ⟨w2.heap.size, 0, none⟩), .slice (some ⟨CT, 0, none⟩) C C, .slice (some ⟨AT, 0, none⟩) A A] 51)
    simpa using this
  have n1 : ((w2.alloc (.cells cs 49)).alloc (.cells #[.pointer (some ⟨w2.heap.size, 0, none⟩), .slice (some ⟨CT, 0, none⟩) C C, .slice (some ⟨AT, 0, none⟩) A A] 51)).heap[w2.heap.size]? = some (.cells cs 49 (0, 0)) := by
    rw [Below.heap_alloc _ _ _ (by simp)]
    exact heap_alloc_new w2 _
  exact ⟨cell_of_block n2 rfl, cell_of_block n2 rfl, cell_of_block n2 rfl, cell_of_block n1 hcs, h'.arg, h'.cand, h'.par, h'.tu, h'.ta, h'.tp⟩

set_option maxHeartbeats 2000000 in
set_option maxRecDepth 100000 in
theorem t5b (w0 W : World) (L : Nat → Nat) (Pb Sb Sc : Nat → Nat) (PB CB RB N CC nl cl : Nat) (pl : Option Addr) (hb : Below w0.heap.size w0 W)
    (hp : Pool κ π PB N Pb W) (hc : W.rowIs CB 5 N (fun i => .int .u8 (κ (Pb i)))) (hr : W.rowIs RB 4 N (fun i => .bool (π (Pb i))))
    (hl : Laid0 κ π u AT CT C A Ab Rb Qb W) (hs : Copies CC C A Sb Sc Qb W) (bN : N ≤ 257) (bC : C ≤ 256) (bA : A ≤ 256) (bl : nl ≤ 4096) (hL : ∀ j, j < nl → L j < C)
    (h29 : Lst W pl nl cl L) (hAT : AT < W.heap.size)
    (u0 u1 u2 u3 u4 u5 u6 u7 u8 u9 u10 u13 u14 u17 u18 u20 u21 u24 u25 u26 u27 u28 u30 u31 u32 u33 u34 u35 u36 u37 u38 u39 u40 u41 u42 u43 u44 u45 u46 u47 u48 u49 u50 u51 u52 u53 u54 u55 u56 u57 u58 u59 u60 u61 u62 u63 u64 u65 u66 u67 u68 u69 u70 u71 u72 u73 u74 u75 u76 u77 u78 u79 u80 u81 u82 u83 u84 u85 u86 u87 u88 u89 u90 u91 u92 u93 u94 u95 u96 u97 u98 u99 u100 u101 u102 u103 u104 u105 u106 u107 u108 u109 u110 u111 u112 u113 u114 u115 u116 u117 u118 u119 u120 u121 u122 u123 u124 u125 u126 u127 u128 u129 u130 u131 u132 u133 u134 u135 u136 u137 u138 u139 u140 u141 u142 u143 u144 u145 u146 u147 u148 u149 u150 u151 u152 u153 u154 u155 u156 u157 u158 u159 u160 u161 u162 u163 u164 u165 u166 u167 u168 u169 u170 u171 u172 u173 u174 u175 u176 u177 u178 u179 u180 u181 u182 u183 u184 u185 u186 u187 u188 u189 u190 u191 u192 u193 u194 u195 u196 u197 u198 u199 u200 u201 u202 u203 u204 u205 u206 u207 u208 u209 u210 u211 u212 u213 u214 u215 u216 u217 u218 u219 u220 u221 u222 u223 u224 u225 u226 u227 u228 u229 u230 u231 u232 u233 u234 u235 u236 u237 u238 u239 u240 u241 u242 u243 u244 u245 u246 u247 u248 u249 u250 u251 u252 u253 u254 u255 u256 u257 u258 u259 u260 u261 u262 u263 u264 u265 u266 u267 u268 u269 u270 u271 u272 u273 u274 u275 u276 u277 u278 u279 u280 u281 u282 u283 u284 u285 u286 u287 u288 u289 u290 u291 u292 u293 u294 u295 u296 u297 u298 u299 u300 u301 u302 u303 u304 u305 u306 u307 u308 u309 u310 u311 u312 u313 u314 u315 u316 u317 u318 u319 u320 u321 u322 u323 u324 u325 u326 u327 u328 u329 u330 u331 u332 u333 u334 u335 u336 u337 u338 u339 u340 u341 u342 u343 u344 u345 u346 u347 u348 u349 u350 u351 u352 u353 u354 u355 u356 u357 u358 u359 u360 u361 u362 u363 u364 u365 u366 u367 u368 u369 u370 u371 u372 u373 u374 u375 u376 u377 u378 u379 u380 u381 u382 u383 u384 : Value) :
    Code.wp Yba.prog (dropTo 50 (Yba.f3.body.getD .skip)) (bodyPost Yba.prog Yba.f3 fun e w' => e = .returned (.bool true) ∧ Below w0.heap.size w0 w')
      ⟨#[u0, u1, u2, u3, u4, u5, u6, u7, u8, u9, u10, .pointer (some ⟨u, 0, none⟩), .slice (some ⟨PB, 0, none⟩) N N, u13, u14, .slice (some ⟨CB, 0, none⟩) N N, .slice (some ⟨RB, 0, none⟩) N N, u17, u18, .slice (some ⟨AT, 0, none⟩) A A, u20, u21, .slice (some ⟨CT, 0, none⟩) C C, .slice (some ⟨CC, 0, none⟩) C C, u24, u25, u26, u27, u28, .slice pl nl cl, u30, u31, u32, u33, u34, u35, u36, u37, u38, u39, u40, u41, u42, u43, u44, u45, u46, u47, u48, u49, u50, u51, u52, u53, u54, u55, u56, u57, u58, u59, u60, u61, u62, u63, u64, u65, u66, u67, u68, u69, u70, u71, u72, u73, u74, u75, u76, u77, u78, u79, u80, u81, u82, u83, u84, u85, u86, u87, u88, u89, u90, u91, u92, u93, u94, u95, u96, u97, u98, u99, u100, u101, u102, u103, u104, u105, u106, u107, u108, u109, u110, u111, u112, u113, u114, u115, u116, u117, u118, u119, u120, u121, u122, u123, u124, u125, u126, u127, u128, u129, u130, u131, u132, u133, u134, u135, u136, u137, u138, u139, u140, u141, u142, u143, u144, u145, u146, u147, u148, u149, u150, u151, u152, u153, u154, u155, u156, u157, u158, u159, u160, u161, u162, u163, u164, u165, u166, u167, u168, u169, u170, u171, u172, u173, u174, u175, u176, u177, u178, u179, u180, u181, u182, u183, u184, u185, u186, u187, u188, u189, u190, u191, u192, u193, u194, u195, u196, u197, u198, u199, u200, u201, u202, u203, u204, u205, u206, u207, u208, u209, u210, u211, u212, u213, u214, u215, u216, u217, u218, u219, u220, u221, u222, u223, u224, u225, u226, u227, u228, u229, u230, u231, u232, u233, u234, u235, u236, u237, u238, u239, u240, u241, u242, u243, u244, u245, u246, u247, u248, u249, u250, u251, u252, u253, u254, u255, u256, u257, u258, u259, u260, u261, u262, u263, u264, u265, u266, u267, u268, u269, u270, u271, u272, u273, u274, u275, u276, u277, u278, u279, u280, u281, u282, u283, u284, u285, u286, u287, u288, u289, u290, u291, u292, u293, u294, u295, u296, u297, u298, u299, u300, u301, u302, u303, u304, u305, u306, u307, u308, u309, u310, u311, u312, u313, u314, u315, u316, u317, u318, u319, u320, u321, u322, u323, u324, u325, u326, u327, u328, u329, u330, u331, u332, u333, u334, u335, u336, u337, u338, u339, u340, u341, u342, u343, u344, u345, u346, u347, u348, u349, u350, u351, u352, u353, u354, u355, u356, u357, u358, u359, u360, u361, u362, u363, u364, u365, u366, u367, u368, u369, u370, u371, u372, u373, u374, u375, u376, u377, u378, u379, u380, u381, u382, u383, u384], []⟩ W := by
  conv => arg 2; whnf
  go_wp2_with fail
  refine (clone_l W pl nl cl L bl h29).mono ?_
  rintro e w1 ⟨pq, cq, rfl, h32, hb1⟩
  dsimp only
  go_wp2_with fail
  have hl1 := hl.later hb1
  refine (clone_ptrs AT 0 A A Ab w1 (by omega) (fun i hi => by simpa using hl1.arg i hi) (Nat.lt_of_lt_of_le hAT hb1.size)).mono ?_
  rintro e w2 ⟨g, cap, rfl, hg, h33, hb2⟩
  dsimp only
  go_upto_region 53 with (fail)
  rename_i K1 hK1
  have HK1 := show Hid _ from hK1
  clear hK1
  have H33 := show Hid _ from h33
  have HL := show Hid (∀ j, j < nl → L j < C) from hL
  clear h33 hL
  go_wp2_with fail
  have hb12 := below_next hb1 hb2
  have hb3 := fun o1 o2 => below_next hb12 (below_two w2 o1 o2)
  refine (most_any _ pl nl cl L (laid_boxed w2 _ rfl (hl1.later hb2)) bA bC bl (h29.sees.later (hb3 _ _)) HL.out).mono ?_
  rintro e w4 ⟨v, rfl, h35, hb4, h35n⟩
  have hb5 := below_next (hb3 _ _) hb4
  have hl4 := (laid_boxed (cs := #[.pointer none, .pointer (some ⟨u, 0, none⟩), .string ⟨#[]⟩, .slice none 0 0, .slice none 0 0, .map none, .map none, .map none, .pointer none]) w2 rfl (hl1.later hb2)).later hb4
  have hb24 := below_next (below_two w2 _ _) hb4
  have H35 := show Hid _ from h35n
  clear h35n
  dsimp only
  go_wp2_with fail
  refine HK1.out _ _ ?_
  apply t6 (M := w2.heap.size + 1) (a := w2.heap.size) (u := u) (AT := AT) (CT := CT) (C := C) (A := A) (Ab := Ab) (Rb := Rb) (Qb := Qb) w0 w4 L Pb Sb Sc PB CB RB N CC g cap nl cl cq _ pl pq v
    (below_next hb hb5) (hp.later hb5) (rowIs_later hc hb5) (rowIs_later hr hb5) hl4 (hs.later hb5) bN bC bA bl HL.out (h29.sees.later hb5) ((h32.later hb2).later hb24) (fun i hi => cell_later hb24 (H33.out i hi)) h35 H35.out
end Go.Proofs.Ybulkexnno
