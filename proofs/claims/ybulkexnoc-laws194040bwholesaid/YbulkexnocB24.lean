import Derived.Test.YbulkexnocB32
import Derived.Deep.DeepCutAuto
import Derived.Deep.CutRange
import Derived.BigRegion
import Derived.Maps.Own
namespace Go.Proofs.Ybulkexnoc
open Go.RowKit Go.Maps
set_option linter.unusedVariables false

set_option maxHeartbeats 2000000 in
set_option maxRecDepth 100000 in
theorem b24 (Q : Exit → Act → World → Prop) (W wo V : World) (d : Dat) (n k : Nat) (nl : Bool) (E : Nat → Nat) (sv : Value) (hn : n ≤ 4096) (hlt : k < n) (hNk : d.Nn k ≤ 65536) (hMk : d.Mn k ≤ 9223372036854775807)
    (hs1 : Sees wo (d.An k) (d.Nn k) (fun j => .string (d.S k j))) (hs2 : Sees wo (d.Am k) (d.Mn k) (fun j => .int .i64 (d.Z k j))) (hSz : ∀ j, (d.S k j).size ≤ maxLen)
    (hR : R2 d W n nl k E sv wo) (hcur : Cur (d.S k) (d.num k) wo (dcell d k) (d.T k) false (if d.O k && decide (0 < k) then ptr (E (k - 1)) else .pointer none) (wo.heap.size + 1) 3 2 0 V)
    (u0 u1 u2 u3 u4 u5 u6 u9 u12 u13 u14 u15 u16 u17 u18 u19 u20 u21 u22 u23 u24 u25 u26 u27 u28 u29 u30 u31 u32 u33 u34 u35 u36 u37 u38 u39 u40 u41 u42 u43 u44 u45 u46 u47 u48 u49 u50 u51 u52 u53 u54 u55 u56 u57 u58 u59 u60 u61 u62 u63 u64 u65 u66 u67 u68 u69 u70 u71 u72 u73 u74 u75 u76 u77 u78 u79 u80 u81 u82 u83 u84 u85 u86 u87 u88 u89 u90 u91 u92 u93 u94 u95 u96 u97 u98 u99 u100 u101 u102 u103 u104 u105 u106 u107 u108 u109 u110 u111 u112 u113 u114 u115 u116 u117 u118 u119 u120 u121 u122 u123 u124 u125 u126 u127 u128 u129 u130 u131 u132 u133 u134 u135 u136 u137 u138 u139 u140 u141 u142 u143 u144 u145 u146 u147 u148 u149 u150 u151 u152 u153 u154 u155 u156 u157 u158 u159 u160 u161 u162 u163 u164 u165 u166 u167 u168 u169 u170 u171 u172 u173 u174 u175 u176 u177 u178 u179 u180 u181 u182 u183 u184 u185 u186 u187 u188 u189 u190 u191 u192 u193 u194 u195 u196 u197 u198 u199 u200 u201 u202 u203 u204 u205 u206 u207 u208 u209 u210 u211 u212 u213 u214 u215 u216 u217 u218 u219 u220 u221 u222 u223 u224 u225 u226 u227 u228 u229 u230 u231 u232 u233 u234 u235 u236 u237 u238 u239 u240 u241 u242 u243 u244 u245 u246 u247 u248 u249 u250 u251 u252 u253 u254 u255 u256 u257 u258 u259 u260 u261 u262 u263 u264 u265 u266 u267 u268 u269 u270 u271 u272 u273 u274 u275 u276 u277 u278 u279 u280 u281 u282 u283 u284 u285 u286 u287 u288 u289 u290 u291 u292 u293 u294 u295 u296 u297 u298 u299 u300 u301 u302 u303 u304 u305 u306 u307 u308 u309 u310 u311 u312 u313 u314 u315 u316 u317 : Value)
    (hQ : ∀ (x12 x13 x14 x81 x82 x83 x84 x85 x86 x87 x88 x89 x90 x91 x92 x93 x94 x95 x96 x97 x98 x99 x100 x101 x102 x103 x104 x105 x106 x107 x108 x109 x110 x111 x112 x113 x114 x115 x116 x117 x118 x119 x120 x121 x122 x123 x124 x125 x126 x127 x128 x129 x130 x131 x132 x133 x134 x135 x136 x137 x138 x139 x140 x141 x142 x143 x144 x145 x146 x147 x148 : Value) (W' : World) (E' : Nat → Nat) (sv' : Value), R2 d W n nl (k + 1) E' sv' W' → Q .normal ⟨#[u0, u1, u2, u3, u4, u5, u6, .slice (some ⟨W.heap.size, 0, none⟩) (k + 1) n, .pointer (some ⟨W.heap.size + 1, 0, none⟩), u9, .pointer (some ⟨wo.heap.size, 0, none⟩), .pointer (some ⟨wo.heap.size + 1, 0, none⟩), x12, x13, x14, u15, u16, u17, u18, u19, u20, u21, u22, u23, u24, u25, u26, u27, u28, u29, u30, u31, u32, u33, u34, u35, u36, u37, u38, u39, u40, u41, u42, u43, u44, u45, u46, u47, u48, u49, u50, u51, u52, u53, u54, u55, u56, u57, u58, u59, u60, u61, u62, u63, u64, u65, u66, u67, u68, u69, u70, u71, u72, u73, u74, u75, u76, u77, u78, u79, u80, x81, x82, x83, x84, x85, x86, x87, x88, x89, x90, x91, x92, x93, x94, x95, x96, x97, x98, x99, x100, x101, x102, x103, x104, x105, x106, x107, x108, x109, x110, x111, x112, x113, x114, x115, x116, x117, x118, x119, x120, x121, x122, x123, x124, x125, x126, x127, x128, x129, x130, x131, x132, x133, x134, x135, x136, x137, x138, x139, x140, x141, x142, x143, x144, x145, x146, x147, x148, u149, u150, u151, u152, u153, u154, u155, u156, u157, u158, u159, u160, u161, u162, u163, u164, u165, u166, u167, u168, u169, u170, u171, u172, u173, u174, u175, u176, u177, u178, u179, u180, u181, u182, u183, u184, u185, u186, u187, u188, u189, u190, u191, u192, u193, u194, u195, u196, u197, u198, u199, u200, u201, u202, u203, u204, u205, u206, u207, u208, u209, u210, u211, u212, u213, u214, u215, u216, u217, u218, u219, u220, u221, u222, u223, u224, u225, u226, u227, u228, u229, u230, u231, u232, u233, u234, u235, u236, u237, u238, u239, u240, u241, u242, u243, u244, u245, u246, u247, u248, u249, u250, u251, u252, u253, u254, u255, u256, u257, u258, u259, u260, u261, u262, u263, u264, u265, u266, u267, u268, u269, u270, u271, u272, u273, u274, u275, u276, u277, u278, u279, u280, u281, u282, u283, u284, u285, u286, u287, u288, u289, u290, u291, u292, u293, u294, u295, u296, u297, u298, u299, u300, u301, u302, u303, u304, u305, u306, u307, u308, u309, u310, u311, u312, u313, u314, u315, u316, u317], []⟩ W') :
    Code.wp Yba.prog (chain 24 (Yba.f3.body.getD .skip)) Q ⟨#[u0, u1, u2, u3, u4, u5, u6, .slice (some ⟨W.heap.size, 0, none⟩) k n, .pointer (some ⟨W.heap.size + 1, 0, none⟩), u9, .pointer (some ⟨wo.heap.size, 0, none⟩), .pointer (some ⟨wo.heap.size + 1, 0, none⟩), u12, u13, u14, u15, u16, u17, u18, u19, u20, u21, u22, u23, u24, u25, u26, u27, u28, u29, u30, u31, u32, u33, u34, u35, u36, u37, u38, u39, u40, u41, u42, u43, u44, u45, u46, u47, u48, u49, u50, u51, u52, u53, u54, u55, u56, u57, u58, u59, u60, u61, u62, u63, u64, u65, u66, u67, u68, u69, u70, u71, u72, u73, u74, u75, u76, u77, u78, u79, u80, u81, u82, u83, u84, u85, u86, u87, u88, u89, u90, u91, u92, u93, u94, u95, u96, u97, u98, u99, u100, u101, u102, u103, u104, u105, u106, u107, u108, u109, u110, u111, u112, u113, u114, u115, u116, u117, u118, u119, u120, u121, u122, u123, u124, u125, u126, u127, u128, u129, u130, u131, u132, u133, u134, u135, u136, u137, u138, u139, u140, u141, u142, u143, u144, u145, u146, u147, u148, u149, u150, u151, u152, u153, u154, u155, u156, u157, u158, u159, u160, u161, u162, u163, u164, u165, u166, u167, u168, u169, u170, u171, u172, u173, u174, u175, u176, u177, u178, u179, u180, u181, u182, u183, u184, u185, u186, u187, u188, u189, u190, u191, u192, u193, u194, u195, u196, u197, u198, u199, u200, u201, u202, u203, u204, u205, u206, u207, u208, u209, u210, u211, u212, u213, u214, u215, u216, u217, u218, u219, u220, u221, u222, u223, u224, u225, u226, u227, u228, u229, u230, u231, u232, u233, u234, u235, u236, u237, u238, u239, u240, u241, u242, u243, u244, u245, u246, u247, u248, u249, u250, u251, u252, u253, u254, u255, u256, u257, u258, u259, u260, u261, u262, u263, u264, u265, u266, u267, u268, u269, u270, u271, u272, u273, u274, u275, u276, u277, u278, u279, u280, u281, u282, u283, u284, u285, u286, u287, u288, u289, u290, u291, u292, u293, u294, u295, u296, u297, u298, u299, u300, u301, u302, u303, u304, u305, u306, u307, u308, u309, u310, u311, u312, u313, u314, u315, u316, u317], []⟩ V := by
  conv => arg 2; whnf
  have HQ := show Hid _ from hQ
  have HSz := show Hid (∀ j, (d.S k j).size ≤ maxLen) from hSz
  clear hQ hSz
  obtain ⟨⟨tm, im, q0, q2⟩, q1, q7, qf, qd, qs⟩ := hcur.facts
  have d0 : V.cell? ⟨wo.heap.size, 0, none⟩ = some (.slice (d.An k) (d.Nn k) (d.Nc k)) := qd 0 (by omega)
  clear q0 q1 q2 q7 qf qd
  go_wp2_with fail
  go_loopg [84] (d.Nn k) (fun gh s84 wx => ∃ j g o cap : Nat, j ≤ d.Nn k ∧ d.Nn k - j ≤ gh ∧ s84 = .int .i64 j ∧ Cur (d.S k) (d.num k) wo (dcell d k) (d.T k) false (if d.O k && decide (0 < k) then ptr (E (k - 1)) else .pointer none) g o cap j wx)
  case atStart => exact ⟨0, _, _, _, Nat.zero_le _, by omega, rfl, hcur⟩
  case round =>
    rename_i Kx hKx J1 J2 J3 J4
    have HK := show Hid _ from hKx
    clear hKx
    obtain ⟨j, g, o, cap, hj, hgh, rfl, hc⟩ := hrel
    obtain ⟨⟨tm, im, q0, q2⟩, q1, q7, qf, qd, qs⟩ := hc.facts
    have d0 : wr.cell? ⟨wo.heap.size, 0, none⟩ = some (.slice (d.An k) (d.Nn k) (d.Nc k)) := qd 0 (by omega)
    have d1 : wr.cell? ⟨wo.heap.size, 1, none⟩ = some (.slice (d.Am k) (d.Mn k) (d.Mc k)) := qd 1 (by omega)
    have f1 := qf 1
    clear qf qd q0 q2 q7
    by_cases hjl : j < d.Nn k
    · rcases hs1 with hs1 | ⟨b1, o1, e1, hs1⟩
      · omega
      have n1 : wr.cell? ⟨b1, o1 + j, none⟩ = some (.string (d.S k j)) := cell_later hc.1 (hs1 j hjl)
      have H1 := show Hid _ from hs1
      have HE1 := show Hid (d.An k = some ⟨b1, o1, none⟩) from e1
      rw [e1] at d0
      clear hs1 e1
      go_upto_if 91 with (fail)
      go_cut [13, 84] from 84 to 117 (fun s13 s84 wx => s13 = .int .i64 (d.num k j) ∧ s84 = .int .i64 j ∧ Cur (d.S k) (d.num k) wo (dcell d k) (d.T k) false (if d.O k && decide (0 < k) then ptr (E (k - 1)) else .pointer none) g o cap j wx)
      case first =>
        rcases Nat.eq_zero_or_pos (d.Mn k) with hM0 | hMp
        · have hv : d.num k j = (j : Int) := by simp [Dat.num, hM0]
          have HV := show Hid _ from hv
          have hm1 : (d.Mn k : Int) ≤ 0 := by omega
          clear hv hM0
          go_wp2_with fail
          go_meet
          case rel => exact ⟨by rw [HV.out], rfl, hc⟩
        · have hv : d.num k j = d.Z k (j % d.Mn k) := by simp only [Dat.num]; rw [if_neg (by omega)]
          have HV := show Hid _ from hv
          have hm1 : (0 : Int) < (d.Mn k : Int) := by omega
          have hml : j % d.Mn k < d.Mn k := Nat.mod_lt _ hMp
          have hmm : (j : Int) % (d.Mn k : Int) = ((j % d.Mn k : Nat) : Int) := (Int.natCast_emod _ _).symm
          have hm2 : (0 : Int) ≤ ((j % d.Mn k : Nat) : Int) := by omega
          have hm3 : ((j % d.Mn k : Nat) : Int) < (d.Mn k : Int) := by omega
          rcases hs2 with hs2 | ⟨b2, o2, e2, hs2⟩
          · omega
          have n2 : wr.cell? ⟨b2, o2 + j % d.Mn k, none⟩ = some (.int .i64 (d.Z k (j % d.Mn k))) := cell_later hc.1 (hs2 _ hml)
          rw [e2] at d1
          clear hv hs2 e2
          generalize j % d.Mn k = r at *
          go_wp2_with fail
          go_quiet (fail)
          go_wp2_with fail
          go_meet
          case rel => exact ⟨by rw [HV.out], rfl, hc.later ⟨rfl, rfl, rfl, Nat.le_refl _, fun _ _ => rfl⟩⟩
      case rest =>
        clear hc q1 d0 d1 f1 n1 qs
        obtain ⟨Va, rfl⟩ : ∃ Va : World, Va = wc := ⟨_, rfl⟩
        obtain ⟨rfl, rfl, hc⟩ := hcut
        obtain ⟨⟨tm, im, q0, q2⟩, q1, q7, qf, qd, qs⟩ := hc.facts
        have d0 : Va.cell? ⟨wo.heap.size, 0, none⟩ = some (.slice (d.An k) (d.Nn k) (d.Nc k)) := qd 0 (by omega)
        rw [HE1.out] at d0
        have f1 := qf 1
        have n1 : Va.cell? ⟨b1, o1 + j, none⟩ = some (.string (d.S k j)) := cell_later hc.1 (H1.out j hjl)
        have ln : b1 < Va.heap.size := World.block_lt_of_cell? Va _ n1
        clear qf qd q0 q2 q7
        have hi0 : (0 : Int) ≤ (j : Int) := Int.natCast_nonneg _
        have hi1 : (j : Int) < (d.Nn k : Int) := by omega
        have hcA := (hc.later ((Below.refl Va.heap.size Va).alloc (Nat.le_refl _) (.cells #[.string (d.S k j), .int .i64 (d.num k j)] 42))).drew
        have hXA := heap_alloc_new Va (.cells #[.string (d.S k j), .int .i64 (d.num k j)] 42)
        have HCA := show Hid _ from hcA
        have HXA := show Hid _ from hXA
        have HC := show Hid _ from hc
        clear hcA hXA hc
        go_wp2_with fail
        have q1a : ∀ ob, (Va.alloc ob).cell? ⟨wo.heap.size + 1, 1, none⟩ = some (.slice (some ⟨g, o, none⟩) j cap) := fun ob => (World.cell?_alloc_lt _ _ _ (by show wo.heap.size + 1 < _; omega)).trans q1
        have d0a : ∀ ob, (Va.alloc ob).cell? ⟨wo.heap.size, 0, none⟩ = some (.slice (some ⟨b1, o1, none⟩) (d.Nn k) (d.Nc k)) := fun ob => (World.cell?_alloc_lt _ _ _ (by show wo.heap.size < _; omega)).trans d0
        have n1a : ∀ ob, (Va.alloc ob).cell? ⟨b1, o1 + j, none⟩ = some (.string (d.S k j)) := fun ob => (World.cell?_alloc_lt _ _ _ ln).trans n1
        refine wp_region_noPanic ?_
        go_region_law ((refine step_nats (by rfl) (.tmp 105) (.tmp 113) (by rfl) Va.heap.size (by simp [Act.eval]) (by simp [Act.eval]) HCA.out (by omega) HXA.out ?_; intro g' o' cap' w1 hcw hc1 hf1 hb1))
        all_goals
          refine NoPanic.normal ?_
          go_wp2_with fail
          go_roundg (d.Nn k - (j + 1))
          case measure => omega
          case rel => exact ⟨j + 1, _, _, _, by omega, by omega, by go_num, hcw⟩
    · obtain rfl : j = d.Nn k := by omega
      go_wp2_with fail
      refine HK.out _ _ ?_
      apply b32 Q W wo wr d n k nl E sv g o cap hn hlt hNk hs1 HSz.out hR hc
      intros
      apply HQ.out
      assumption
end Go.Proofs.Ybulkexnoc
