import Derived.Test.YbulkexnocB24
import Derived.Test.YbulkexnocB42
import Derived.Deep.DeepCutAuto
import Derived.WideMake
namespace Go.Proofs.Ybulkexnoc
open Go.RowKit Go.Maps
set_option linter.unusedVariables false

theorem cur_start (w V : World) (d : Dat) (k : Nat) (hb : Below w.heap.size w V) (hD : V.heap[w.heap.size]? = some (.cells #[.slice (d.An k) (d.Nn k) (d.Nc k), .slice (d.Am k) (d.Mn k) (d.Mc k), .bool (d.T k), .bool (d.O k)] 26 (0, 0)))
    (hE : V.rowIs (w.heap.size + 1) 45 8 (fun i => (fresh (w.heap.size + 1) (.map none) (.pointer none)).getD i undef)) :
    Cur (d.S k) (d.num k) w (dcell d k) false false (.pointer none) (w.heap.size + 1) 3 2 0 V := by
  refine ⟨hb, ⟨_, hD, rfl, fun i hi => ?_⟩, _, none, none, hE, rfl, rfl, rfl, rfl, rfl, rfl, .inl ⟨rfl, rfl, rfl, by omega, fun q hq => by omega⟩⟩
  have : i = 0 ∨ i = 1 ∨ i = 2 ∨ i = 3 := by omega
  rcases this with rfl | rfl | rfl | rfl <;> rfl

theorem newb (w : World) (d : Dat) (k : Nat) : Calls Yba.prog 5 #[.map none, .pointer none] (w.alloc (.cells #[.slice (d.An k) (d.Nn k) (d.Nc k), .slice (d.Am k) (d.Mn k) (d.Mc k), .bool (d.T k), .bool (d.O k)] 26)) fun e V =>
    e = .returned (.pointer (some ⟨w.heap.size + 1, 0, none⟩)) ∧ Cur (d.S k) (d.num k) w (dcell d k) false false (.pointer none) (w.heap.size + 1) 3 2 0 V := by
  refine (newBindings_any _).mono fun e V ⟨h1, h2⟩ => ?_
  have e1 : (w.alloc (.cells #[.slice (d.An k) (d.Nn k) (d.Nc k), .slice (d.Am k) (d.Mn k) (d.Mc k), .bool (d.T k), .bool (d.O k)] 26)).heap.size = w.heap.size + 1 := by simp
  rw [e1] at h1 h2
  subst h1 h2
  refine ⟨rfl, cur_start w _ d k (((Below.refl _ _).alloc (Nat.le_refl _) _).alloc (by simp) _) ?_ ?_⟩
  · rw [Below.heap_alloc _ _ _ (by simp)]; exact heap_alloc_new w _
  · have := heap_alloc_new (w.alloc (.cells #[.slice (d.An k) (d.Nn k) (d.Nc k), .slice (d.Am k) (d.Mn k) (d.Mc k), .bool (d.T k), .bool (d.O k)] 26)) (.cells (fresh (w.heap.size + 1) (.map none) (.pointer none)) 45)
    rw [e1] at this
    refine ⟨_, this, rfl, fun i hi => ?_⟩
    have : i = 0 ∨ i = 1 ∨ i = 2 ∨ i = 3 ∨ i = 4 ∨ i = 5 ∨ i = 6 ∨ i = 7 := by omega
    rcases this with rfl | rfl | rfl | rfl | rfl | rfl | rfl | rfl <;> rfl

/-- The first entry of a map that has just been made. -/
theorem ins_first (V : World) : ∃ w2 : Value → World, (∀ X, (Instr.mapUpdate 38 (.map (some V.heap.size)) (.string ⟨#[88]⟩) X).run Yba.prog (V.alloc (.map #[] 0)) = .ok () (w2 X)) ∧ ∀ X, Below V.heap.size V (w2 X) := by
  refine ⟨_, fun X => run_mapUpdate_first (P := Yba.prog) (V.alloc (.map #[] 0)) 38 9 37 V.heap.size 0 ⟨#[88]⟩ X Yba.underlying38 Yba.underlying9 (by show (V.heap.push _)[V.heap.size]? = _; simp), fun X => ⟨rfl, rfl, rfl, ?_, fun b hb => ?_⟩⟩
  · show V.heap.size ≤ ((V.heap.push _).setIfInBounds _ _).size
    simp
  · show ((V.heap.push _).setIfInBounds V.heap.size _)[b]? = _
    rw [Array.getElem?_setIfInBounds, if_neg (by omega), Array.getElem?_push, if_neg (by omega)]

set_option maxHeartbeats 2000000 in
set_option maxRecDepth 100000 in
theorem b15 (w0 W Wb : World) (d : Dat) (p0 : Option Addr) (n c0 : Nat) (nl : Bool) (hn : n ≤ 4096) (hN : ∀ i, i < n → d.Nn i ≤ 65536) (hM : ∀ i, i < n → d.Mn i ≤ 9223372036854775807) (hSz : ∀ i j, (d.S i j).size ≤ maxLen) (h0 : SeesE W p0 n d) (hb : Below w0.heap.size w0 W)
    (hr2 : R2 d W n nl 0 (fun _ => 0) (sv0 nl (W.heap.size + 2)) Wb)
    (u2 u3 u4 u5 u6 u9 u10 u11 u12 u13 u14 u15 u16 u17 u18 u19 u20 u21 u22 u23 u24 u25 u26 u27 u28 u29 u30 u31 u32 u33 u34 u35 u36 u37 u38 u39 u40 u41 u42 u43 u44 u45 u46 u47 u48 u49 u50 u51 u52 u53 u54 u55 u56 u57 u58 u59 u60 u61 u62 u63 u64 u65 u66 u67 u68 u69 u70 u71 u72 u73 u74 u75 u76 u77 u78 u79 u80 u81 u82 u83 u84 u85 u86 u87 u88 u89 u90 u91 u92 u93 u94 u95 u96 u97 u98 u99 u100 u101 u102 u103 u104 u105 u106 u107 u108 u109 u110 u111 u112 u113 u114 u115 u116 u117 u118 u119 u120 u121 u122 u123 u124 u125 u126 u127 u128 u129 u130 u131 u132 u133 u134 u135 u136 u137 u138 u139 u140 u141 u142 u143 u144 u145 u146 u147 u148 u149 u150 u151 u152 u153 u154 u155 u156 u157 u158 u159 u160 u161 u162 u163 u164 u165 u166 u167 u168 u169 u170 u171 u172 u173 u174 u175 u176 u177 u178 u179 u180 u181 u182 u183 u184 u185 u186 u187 u188 u189 u190 u191 u192 u193 u194 u195 u196 u197 u198 u199 u200 u201 u202 u203 u204 u205 u206 u207 u208 u209 u210 u211 u212 u213 u214 u215 u216 u217 u218 u219 u220 u221 u222 u223 u224 u225 u226 u227 u228 u229 u230 u231 u232 u233 u234 u235 u236 u237 u238 u239 u240 u241 u242 u243 u244 u245 u246 u247 u248 u249 u250 u251 u252 u253 u254 u255 u256 u257 u258 u259 u260 u261 u262 u263 u264 u265 u266 u267 u268 u269 u270 u271 u272 u273 u274 u275 u276 u277 u278 u279 u280 u281 u282 u283 u284 u285 u286 u287 u288 u289 u290 u291 u292 u293 u294 u295 u296 u297 u298 u299 u300 u301 u302 u303 u304 u305 u306 u307 u308 u309 u310 u311 u312 u313 u314 u315 u316 u317 : Value) :
    Code.wp Yba.prog (chain 15 (Yba.f3.body.getD .skip)) (bodyPost Yba.prog Yba.f3 fun e w' => e = .returned (.bool true) ∧ Below w0.heap.size w0 w')
      ⟨#[.slice p0 n c0, .bool nl, u2, u3, u4, u5, u6, .slice (some ⟨W.heap.size, 0, none⟩) 0 n, .pointer (some ⟨W.heap.size + 1, 0, none⟩), u9, u10, u11, u12, u13, u14, u15, u16, u17, u18, u19, u20, u21, u22, u23, u24, u25, u26, u27, u28, u29, u30, u31, u32, u33, u34, u35, u36, u37, u38, u39, u40, u41, u42, u43, u44, u45, u46, u47, u48, u49, u50, u51, u52, u53, u54, u55, u56, u57, u58, u59, u60, u61, u62, u63, u64, u65, u66, u67, u68, u69, u70, u71, u72, u73, u74, u75, u76, u77, u78, u79, u80, u81, u82, u83, u84, u85, u86, u87, u88, u89, u90, u91, u92, u93, u94, u95, u96, u97, u98, u99, u100, u101, u102, u103, u104, u105, u106, u107, u108, u109, u110, u111, u112, u113, u114, u115, u116, u117, u118, u119, u120, u121, u122, u123, u124, u125, u126, u127, u128, u129, u130, u131, u132, u133, u134, u135, u136, u137, u138, u139, u140, u141, u142, u143, u144, u145, u146, u147, u148, u149, u150, u151, u152, u153, u154, u155, u156, u157, u158, u159, u160, u161, u162, u163, u164, u165, u166, u167, u168, u169, u170, u171, u172, u173, u174, u175, u176, u177, u178, u179, u180, u181, u182, u183, u184, u185, u186, u187, u188, u189, u190, u191, u192, u193, u194, u195, u196, u197, u198, u199, u200, u201, u202, u203, u204, u205, u206, u207, u208, u209, u210, u211, u212, u213, u214, u215, u216, u217, u218, u219, u220, u221, u222, u223, u224, u225, u226, u227, u228, u229, u230, u231, u232, u233, u234, u235, u236, u237, u238, u239, u240, u241, u242, u243, u244, u245, u246, u247, u248, u249, u250, u251, u252, u253, u254, u255, u256, u257, u258, u259, u260, u261, u262, u263, u264, u265, u266, u267, u268, u269, u270, u271, u272, u273, u274, u275, u276, u277, u278, u279, u280, u281, u282, u283, u284, u285, u286, u287, u288, u289, u290, u291, u292, u293, u294, u295, u296, u297, u298, u299, u300, u301, u302, u303, u304, u305, u306, u307, u308, u309, u310, u311, u312, u313, u314, u315, u316, u317], []⟩ Wb := by
  conv => arg 2; whnf
  have HN := show Hid (∀ i, i < n → d.Nn i ≤ 65536) from hN
  have HM := show Hid (∀ i, i < n → d.Mn i ≤ 9223372036854775807) from hM
  have HSz := show Hid (∀ i j, (d.S i j).size ≤ maxLen) from hSz
  clear hN hM hSz
  go_wp2_with fail
  go_loopw [7, 51] (fun pv i wr => ∃ k : Nat, ∃ E : Nat → Nat, ∃ sv : Value, k ≤ n ∧ i = .int .i64 k ∧ pv = .slice (some ⟨W.heap.size, 0, none⟩) k n ∧ R2 d W n nl k E sv wr) (fun _ i _ => n - (intOf i).toNat)
  case atStart => exact ⟨0, _, _, Nat.zero_le _, rfl, rfl, hr2⟩
  case round =>
    rename_i Kx hKx
    have HK := show Hid _ from hKx
    clear hKx
    obtain ⟨wo, rfl⟩ : ∃ wo : World, wo = wr := ⟨_, rfl⟩
    obtain ⟨k, E, sv, hk, rfl, rfl, hR⟩ := hrel
    by_cases hlt : k < n
    · rcases h0 with h0 | ⟨bb, ob, rfl, h0⟩
      · omega
      obtain ⟨e1, e2, e3, e4, e5, e6⟩ := h0 k hlt
      have hbel := hR.bel
      have g1 := cell_later hbel e1
      have g2 := cell_later hbel e2
      have g3 := cell_later hbel e3
      have g4 := cell_later hbel e4
      have H0 := show Hid _ from h0
      clear h0 e1 e2 e3 e4
      have hNk := HN.out k hlt
      have hMk := HM.out k hlt
      go_wp2_with fail
      refine (newb wo d k).mono ?_
      rintro e V ⟨rfl, hcur⟩
      dsimp only
      obtain ⟨⟨tm, im, q0, q2⟩, q1, q7, qf, qd, qs⟩ := hcur.facts
      have d2 : V.cell? ⟨wo.heap.size, 2, none⟩ = some (.bool (d.T k)) := qd 2 (by omega)
      have QF := show Hid _ from qf
      have QD := show Hid _ from qd
      clear qf qd
      go_upto_if 60 with (fail)
      go_cut [] (fun wc => Cur (d.S k) (d.num k) wo (dcell d k) (d.T k) false (.pointer none) (wo.heap.size + 1) 3 2 0 wc)
      case first =>
        cases hT : d.T k
        · go_wp2_with fail
          go_meet
          case rel => rw [hT]; exact hcur
        · have hmm := @run_makeMap Yba.prog
          obtain ⟨w2, hins, hb2⟩ := ins_first V
          have HB2 := show Hid _ from hb2
          have c0 : ∀ X, (w2 X).cell? ⟨wo.heap.size + 1, 0, none⟩ = some (.map tm) := fun X => cell_later (hb2 X) q0
          have f0 : ∀ X, (w2 X).frozen? ⟨wo.heap.size + 1, 0, none⟩ = false := fun X => ((hb2 X).frozen (p := ⟨wo.heap.size + 1, 0, none⟩) (by show wo.heap.size + 1 < _; omega)).trans (QF.out 0)
          clear hb2
          go_wp2_with fail
          go_meet
          case rel => rw [hT]; exact (hcur.later (HB2.out _)).setTypes _
      case rest =>
        clear hcur q0 q1 q2 q7 QF QD qs d2
        obtain ⟨Va, rfl⟩ : ∃ Va : World, Va = wc := ⟨_, rfl⟩
        have hcur := hcut
        clear hcut
        obtain ⟨⟨tm, im, q0, q2⟩, q1, q7, qf, qd, qs⟩ := hcur.facts
        have d3 : Va.cell? ⟨wo.heap.size, 3, none⟩ = some (.bool (d.O k)) := qd 3 (by omega)
        have QF := show Hid _ from qf
        have QD := show Hid _ from qd
        clear qf qd
        go_upto_region 22 with (fail)
        rename_i K1 hK1 K2 hK2
        have HK1 := show Hid _ from hK1
        clear hK1
        go_cut [72] (fun s72 wx => s72 = .bool (d.O k && decide (0 < k)) ∧ Cur (d.S k) (d.num k) wo (dcell d k) (d.T k) false (.pointer none) (wo.heap.size + 1) 3 2 0 wx)
        case first =>
          cases hO : d.O k
          · go_wp2_with fail
            go_meet
            case rel => exact ⟨by simp [hO], hcur⟩
          · go_wp2_with fail
            go_meet
            case rel => exact ⟨by simp [hO], hcur⟩
        case rest =>
          clear hcur q0 q1 q2 q7 QF QD qs d3
          obtain ⟨Vb, rfl⟩ : ∃ Vb : World, Vb = wc := ⟨_, rfl⟩
          obtain ⟨rfl, hcur⟩ := hcut
          obtain ⟨⟨tm, im, q0, q2⟩, q1, q7, qf, qd, qs⟩ := hcur.facts
          have QF := show Hid _ from qf
          have QD := show Hid _ from qd
          clear qf qd
          go_upto_if 72 with (fail)
          go_cut [] (fun wx => Cur (d.S k) (d.num k) wo (dcell d k) (d.T k) false (if d.O k && decide (0 < k) then ptr (E (k - 1)) else .pointer none) (wo.heap.size + 1) 3 2 0 wx)
          case first =>
            cases hOP : (d.O k && decide (0 < k))
            · go_wp2_with fail
              go_meet
              case rel => rw [hOP]; exact hcur
            · have hk0 : 0 < k := by
                rw [Bool.and_eq_true] at hOP
                exact of_decide_eq_true hOP.2
              have hpt : Vb.cell? ⟨W.heap.size, k - 1, none⟩ = some (ptr (E (k - 1))) := by
                refine cell_later hcur.1 ?_
                rw [hR.pt.cellAt (k - 1) (by omega)]
                simp [ptrs, show k - 1 < k by omega]
              unfold ptr at hpt
              have hf7 := QF.out 7
              obtain ⟨k', rfl⟩ : ∃ k', k = k' + 1 := ⟨k - 1, by omega⟩
              simp only [Nat.add_sub_cancel] at hpt
              go_wp2_with fail
              go_meet
              case rel => rw [hOP]; exact hcur.setOuter _
          case rest =>
            clear hcur q0 q1 q2 q7 QF QD qs
            obtain ⟨Vc, rfl⟩ : ∃ Vc : World, Vc = wc := ⟨_, rfl⟩
            have hcur := hcut
            clear hcut
            refine HK1.out _ _ ?_
            apply b24 _ W wo Vc d n k nl E sv hn hlt hNk hMk (e5.later hbel) (e6.later hbel) (HSz.out k) hR hcur
            intros
            rename_i W3 E3 sv3 hR3
            clear HK1 HK
            go_wp2_with fail
            go_roundw
            case rel => exact ⟨k + 1, _, _, by omega, by go_num, rfl, hR3⟩
            case measure => simp [intOf]; omega
    · go_wp2_with fail
      obtain rfl : n = k := by omega
      refine HK.out _ _ ?_
      apply b42 w0 W wo d n c0 nl E sv p0 hn HN.out HM.out h0 hR hb
end Go.Proofs.Ybulkexnoc
