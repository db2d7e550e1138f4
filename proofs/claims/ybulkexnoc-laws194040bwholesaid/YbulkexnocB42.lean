import Derived.Test.YbulkexnocB55
namespace Go.Proofs.Ybulkexnoc
open Go.RowKit
set_option linter.unusedVariables false

theorem eql_nil27 (V : World) : (binOp .eql 27 (.slice none 0 0) (.slice none 0 0)).run Yba.prog V = .ok (.bool true) V := by kernel_rfl
theorem eql_some27 (B : Nat) (V : World) : (binOp .eql 27 (.slice (some ⟨B, 0, none⟩) 0 0) (.slice none 0 0)).run Yba.prog V = .ok (.bool false) V := by kernel_rfl

theorem tag_ne {V : World} {a b : Nat} {c c' : Array Value} {t t' : TypeId} (h : V.heap[a]? = some (.cells c t (0, 0))) (h' : V.heap[b]? = some (.cells c' t' (0, 0))) (ht : t ≠ t') : a ≠ b := by
  rintro rfl
  rw [h] at h'
  injection h' with h'
  injection h' with _ e _
  exact ht e

theorem fin_of {d : Dat} {W V V' : World} {m g cap : Nat} {nl : Bool} {E : Nat → Nat} {p0 : Option Addr} (hR : R2 d W (m + 1) nl (m + 1) E (.slice (some ⟨g, 0, none⟩) (m + 1) cap) V) (h0 : SeesE W p0 (m + 1) d)
    (h1 : V'.heap[W.heap.size + 1]? = some (.cells #[.slice (some ⟨g, 0, none⟩) m cap] 29 (0, 0))) (h2 : V'.rowIs (E m) 45 8 (fun i => (fresh (E m) (.map none) (.pointer none)).getD i undef))
    (h3 : ∀ b, b ≠ W.heap.size + 1 → b ≠ E m → V'.heap[b]? = V.heap[b]?) (h4 : ∀ B, B ≤ W.heap.size + 1 → B ≤ E m → Below B V V') : Fin d W.heap.size m g cap E p0 V' ∧ Below W.heap.size W V' := by
  have hb : Below W.heap.size W V' := hR.bel.trans (h4 _ (by omega) (hR.old m (by omega)))
  obtain ⟨cm, tm⟩ := (hR.env m (by omega)).tag
  obtain ⟨cp, tp⟩ := own_tag hR.pt
  obtain ⟨cs, ts⟩ := own_tag hR.sp
  have kp : V'.heap[W.heap.size]? = V.heap[W.heap.size]? := h3 _ (by omega) (tag_ne tp tm (by decide))
  have ks : V'.heap[g]? = V.heap[g]? := h3 _ (tag_ne ts hR.bb (by decide)) (tag_ne ts tm (by decide))
  refine ⟨⟨cell_of_one h1, fun i hi => ?_, fun i hi => ?_, fun i hi => ?_, ?_, h2⟩, hb⟩
  · rw [World.cell?_of_block (w := V) ks, hR.sp.cellAt i (by omega)]
    simp [ptrs, show i < m + 1 by omega]
  · rw [World.cell?_of_block (w := V) kp, hR.pt.cellAt i (by omega)]
    simp [ptrs, hi]
  · have he := hR.env i (by omega)
    obtain ⟨ci, ti⟩ := he.tag
    exact he.keep (h3 _ (tag_ne ti hR.bb (by decide)) (hR.inj i m hi (by omega))) (fun b c hc => h3 _ (tag_ne hc hR.bb (by decide)) (tag_ne hc tm (by decide)))
  · rcases h0 with h0 | ⟨b, o, e, h0⟩
    · exact .inl h0
    · refine .inr ⟨b, o, e, fun i hi => ?_⟩
      obtain ⟨a1, a2, a3, a4, a5, a6⟩ := h0 i hi
      have later : ∀ {p : Option Addr} {n : Nat} {f : Nat → Value}, Sees W p n f → Sees V' p n f := fun {p n f} h => by
        rcases h with h | ⟨b, o, e, h⟩
        · exact .inl h
        · exact .inr ⟨b, o, e, fun i hi => cell_later hb (h i hi)⟩
      exact ⟨cell_later hb a1, cell_later hb a2, cell_later hb a3, cell_later hb a4, later a5, later a6⟩

set_option maxHeartbeats 2000000 in
set_option maxRecDepth 100000 in
theorem b42 (w0 W V : World) (d : Dat) (n c0 : Nat) (nl : Bool) (E : Nat → Nat) (sv : Value) (p0 : Option Addr) (hn : n ≤ 4096) (hN : ∀ i, i < n → d.Nn i ≤ 65536) (hM : ∀ i, i < n → d.Mn i ≤ 9223372036854775807)
    (h0 : SeesE W p0 n d) (hR : R2 d W n nl n E sv V) (hb : Below w0.heap.size w0 W)
    (u2 u3 u4 u5 u6 u9 u10 u11 u12 u13 u14 u15 u16 u17 u18 u19 u20 u21 u22 u23 u24 u25 u26 u27 u28 u29 u30 u31 u32 u33 u34 u35 u36 u37 u38 u39 u40 u41 u42 u43 u44 u45 u46 u47 u48 u49 u50 u51 u52 u53 u54 u55 u56 u57 u58 u59 u60 u61 u62 u63 u64 u65 u66 u67 u68 u69 u70 u71 u72 u73 u74 u75 u76 u77 u78 u79 u80 u81 u82 u83 u84 u85 u86 u87 u88 u89 u90 u91 u92 u93 u94 u95 u96 u97 u98 u99 u100 u101 u102 u103 u104 u105 u106 u107 u108 u109 u110 u111 u112 u113 u114 u115 u116 u117 u118 u119 u120 u121 u122 u123 u124 u125 u126 u127 u128 u129 u130 u131 u132 u133 u134 u135 u136 u137 u138 u139 u140 u141 u142 u143 u144 u145 u146 u147 u148 u149 u150 u151 u152 u153 u154 u155 u156 u157 u158 u159 u160 u161 u162 u163 u164 u165 u166 u167 u168 u169 u170 u171 u172 u173 u174 u175 u176 u177 u178 u179 u180 u181 u182 u183 u184 u185 u186 u187 u188 u189 u190 u191 u192 u193 u194 u195 u196 u197 u198 u199 u200 u201 u202 u203 u204 u205 u206 u207 u208 u209 u210 u211 u212 u213 u214 u215 u216 u217 u218 u219 u220 u221 u222 u223 u224 u225 u226 u227 u228 u229 u230 u231 u232 u233 u234 u235 u236 u237 u238 u239 u240 u241 u242 u243 u244 u245 u246 u247 u248 u249 u250 u251 u252 u253 u254 u255 u256 u257 u258 u259 u260 u261 u262 u263 u264 u265 u266 u267 u268 u269 u270 u271 u272 u273 u274 u275 u276 u277 u278 u279 u280 u281 u282 u283 u284 u285 u286 u287 u288 u289 u290 u291 u292 u293 u294 u295 u296 u297 u298 u299 u300 u301 u302 u303 u304 u305 u306 u307 u308 u309 u310 u311 u312 u313 u314 u315 u316 u317 : Value) :
    Code.wp Yba.prog (chain 42 (Yba.f3.body.getD .skip)) (bodyPost Yba.prog Yba.f3 fun e w' => e = .returned (.bool true) ∧ Below w0.heap.size w0 w')
      ⟨#[.slice p0 n c0, .bool nl, u2, u3, u4, u5, u6, .slice (some ⟨W.heap.size, 0, none⟩) n n, .pointer (some ⟨W.heap.size + 1, 0, none⟩), u9, u10, u11, u12, u13, u14, u15, u16, u17, u18, u19, u20, u21, u22, u23, u24, u25, u26, u27, u28, u29, u30, u31, u32, u33, u34, u35, u36, u37, u38, u39, u40, u41, u42, u43, u44, u45, u46, u47, u48, u49, u50, u51, u52, u53, u54, u55, u56, u57, u58, u59, u60, u61, u62, u63, u64, u65, u66, u67, u68, u69, u70, u71, u72, u73, u74, u75, u76, u77, u78, u79, u80, u81, u82, u83, u84, u85, u86, u87, u88, u89, u90, u91, u92, u93, u94, u95, u96, u97, u98, u99, u100, u101, u102, u103, u104, u105, u106, u107, u108, u109, u110, u111, u112, u113, u114, u115, u116, u117, u118, u119, u120, u121, u122, u123, u124, u125, u126, u127, u128, u129, u130, u131, u132, u133, u134, u135, u136, u137, u138, u139, u140, u141, u142, u143, u144, u145, u146, u147, u148, u149, u150, u151, u152, u153, u154, u155, u156, u157, u158, u159, u160, u161, u162, u163, u164, u165, u166, u167, u168, u169, u170, u171, u172, u173, u174, u175, u176, u177, u178, u179, u180, u181, u182, u183, u184, u185, u186, u187, u188, u189, u190, u191, u192, u193, u194, u195, u196, u197, u198, u199, u200, u201, u202, u203, u204, u205, u206, u207, u208, u209, u210, u211, u212, u213, u214, u215, u216, u217, u218, u219, u220, u221, u222, u223, u224, u225, u226, u227, u228, u229, u230, u231, u232, u233, u234, u235, u236, u237, u238, u239, u240, u241, u242, u243, u244, u245, u246, u247, u248, u249, u250, u251, u252, u253, u254, u255, u256, u257, u258, u259, u260, u261, u262, u263, u264, u265, u266, u267, u268, u269, u270, u271, u272, u273, u274, u275, u276, u277, u278, u279, u280, u281, u282, u283, u284, u285, u286, u287, u288, u289, u290, u291, u292, u293, u294, u295, u296, u297, u298, u299, u300, u301, u302, u303, u304, u305, u306, u307, u308, u309, u310, u311, u312, u313, u314, u315, u316, u317], []⟩ V := by
  conv => arg 2; whnf
  have n1 := eql_nil27
  have n2 := eql_some27
  have hs := hb.size
  have hs2 := hR.siz
  cases n with
  | zero =>
    have hz := hR.zero rfl
    subst hz
    have hbb : V.heap[W.heap.size + 1]? = some (.cells #[sv0 nl (W.heap.size + 2)] 29 (0, 0)) := hR.bb
    have hbV : Below w0.heap.size w0 V := hb.trans (hR.bel.mono hs)
    have hrow : (V.alloc (.cells (fresh V.heap.size (.map none) (.pointer none)) 45)).rowIs V.heap.size 45 8 (fun i => (fresh V.heap.size (.map none) (.pointer none)).getD i undef) := by
      refine ⟨_, heap_alloc_new V _, rfl, fun i hi => ?_⟩
      have : i = 0 ∨ i = 1 ∨ i = 2 ∨ i = 3 ∨ i = 4 ∨ i = 5 ∨ i = 6 ∨ i = 7 := by omega
      rcases this with rfl | rfl | rfl | rfl | rfl | rfl | rfl | rfl <;> rfl
    have hbA : Below w0.heap.size w0 (V.alloc (.cells (fresh V.heap.size (.map none) (.pointer none)) 45)) := hbV.alloc (by omega) _
    clear hR h0 hN hM
    cases nl
    · have hc : V.cell? ⟨W.heap.size + 1, 0, none⟩ = some (.slice (some ⟨W.heap.size + 2, 0, none⟩) 0 0) := cell_of_one hbb
      have hcA : (V.alloc (.cells (fresh V.heap.size (.map none) (.pointer none)) 45)).cell? ⟨W.heap.size + 1, 0, none⟩ = some (.slice (some ⟨W.heap.size + 2, 0, none⟩) 0 0) := cell_later ((Below.refl _ _).alloc (Nat.le_refl _) _) hc
      go_wp2_with fail
      refine (spare_none V (W.heap.size + 1) (some ⟨W.heap.size + 2, 0, none⟩) 0 hbb).mono ?_
      rintro e V1 ⟨rfl, rfl⟩
      unfold ptr
      dsimp only
      go_wp2_with fail
      refine (fresh_any _ V.heap.size hrow).mono ?_
      rintro e V2 ⟨rfl, mm, rfl⟩
      dsimp only
      go_upto_region 46 with (fail)
      rename_i K1 hK1 K2 hK2
      have HK1 := show Hid _ from hK1
      clear hK1
      go_wp2_with fail
      refine HK1.out _ _ ?_
      apply b82 w0 _ V.heap.size (by omega) (below_drewN hbA _) hrow
    · have hc : V.cell? ⟨W.heap.size + 1, 0, none⟩ = some (.slice none 0 0) := cell_of_one hbb
      have hcA : (V.alloc (.cells (fresh V.heap.size (.map none) (.pointer none)) 45)).cell? ⟨W.heap.size + 1, 0, none⟩ = some (.slice none 0 0) := cell_later ((Below.refl _ _).alloc (Nat.le_refl _) _) hc
      go_wp2_with fail
      refine (spare_none V (W.heap.size + 1) none 0 hbb).mono ?_
      rintro e V1 ⟨rfl, rfl⟩
      unfold ptr
      dsimp only
      go_wp2_with fail
      refine (fresh_any _ V.heap.size hrow).mono ?_
      rintro e V2 ⟨rfl, mm, rfl⟩
      dsimp only
      go_upto_region 46 with (fail)
      rename_i K1 hK1 K2 hK2
      have HK1 := show Hid _ from hK1
      clear hK1
      go_wp2_with fail
      refine HK1.out _ _ ?_
      apply b82 w0 _ V.heap.size (by omega) (below_drewN hbA _) hrow
  | succ m =>
    obtain ⟨g, cap, rfl, hc1, hc2⟩ : ∃ g cap, sv = .slice (some ⟨g, 0, none⟩) (m + 1) cap ∧ m + 1 ≤ cap ∧ cap ≤ maxLen := by
      rcases hR.sp.2 with ⟨_, h⟩ | ⟨g, cap, cur, h1, _, _, h2, h3, _⟩
      · omega
      · exact ⟨g, cap, h1, h2, h3⟩
    obtain ⟨F, _, _, _, _, _, hF, _⟩ := hR.env m (by omega)
    have hcell : V.cell? ⟨g, m, none⟩ = some (ptr (E m)) := by
      rw [hR.sp.cellAt m (by omega)]
      simp [ptrs]
    have hsp := spare_some V (W.heap.size + 1) g m cap (E m) F hR.bb hc1 hc2 hcell hF
    have hne := neq_same (E m)
    have HSP := show Hid _ from hsp
    have hold := hR.old m (by omega)
    have HN := show Hid (∀ i, i < m + 1 → d.Nn i ≤ 65536) from hN
    have HM := show Hid (∀ i, i < m + 1 → d.Mn i ≤ 9223372036854775807) from hM
    clear hsp hN hM hF hcell
    go_wp2_with fail
    refine Calls.mono HSP.out ?_
    rintro e V1 ⟨rfl, k1, k2, k3, k4⟩
    obtain ⟨hfin, hbV1⟩ := fin_of hR h0 k1 k2 k3 k4
    clear k1 k3 k4 HSP h0
    unfold ptr
    dsimp only
    go_wp2_with fail
    refine (fresh_any _ (E m) k2).mono ?_
    rintro e V2 ⟨rfl, mm, rfl⟩
    dsimp only
    have hF2 := hfin.later (V' := V1.drewN mm) (below_drewN (Below.refl _ _) _)
    have hb2 : Below w0.heap.size w0 (V1.drewN mm) := below_drewN (hb.trans (hbV1.mono hs)) _
    have q1 := hF2.bb
    have q2 := hF2.ptc m (by omega)
    unfold ptr at q2
    have HF2 := show Hid _ from hF2
    clear hF2 hfin k2 hbV1 hR
    generalize V1.drewN mm = V2 at *
    go_upto_region 46 with (fail)
    rename_i K1 hK1 K2 hK2
    have HK1 := show Hid _ from hK1
    clear hK1
    unfold maxLen at hc2
    go_upto_region 53 with (fail)
    rename_i K3 hK3 K4 hK4
    have HK3 := show Hid _ from hK3
    clear hK3
    go_wp2_with fail
    refine HK3.out _ _ ?_
    apply b55 w0 V2 d W.heap.size m g cap (m + 1) c0 E p0 (by omega) (by omega) (by simp only [maxLen]; omega) (by omega) HN.out HM.out HF2.out (by omega) hb2 K1 HK1.out
end Go.Proofs.Ybulkexnoc
