import Derived.Test.YbulkexnocBCur
import Derived.Deep.CutRange
import Derived.Maps.Own
import Derived.Deep.LoopGhost
namespace Go.Proofs.Ybulkexnoc
open Go.RowKit Go.Maps
set_option linter.unusedVariables false

/-- The number of the first region of a piece of code. -/
def headReg : Code → Nat
  | .region k _ _ => k
  | .seq a _ => headReg a
  | .block _ c => headReg c
  | .loop c => headReg c
  | .scope c => headReg c
  | _ => 1000000
/-- The chain of statements that begins with region r, wherever it lies. -/
def find (r : Nat) : Code → Option Code
  | .seq a b => match headReg a == r with
    | true => some (.seq a b)
    | false => match find r a with
      | some c => some c
      | none => find r b
  | .block _ c => find r c
  | .loop c => find r c
  | .scope c => find r c
  | .cond _ a b => match find r a with
    | some c => some c
    | none => find r b
  | _ => none
def chain (r : Nat) (c : Code) : Code := (find r c).getD .skip

def dcell (d : Dat) (k q : Nat) : Value := match q with
  | 0 => .slice (d.An k) (d.Nn k) (d.Nc k)
  | 1 => .slice (d.Am k) (d.Mn k) (d.Mc k)
  | 2 => .bool (d.T k)
  | _ => .bool (d.O k)

theorem keyed9 : Keyed Yba.prog 9 := string_keyed Yba.underlying9

set_option maxHeartbeats 2000000 in
set_option maxRecDepth 100000 in
theorem b32 (Q : Exit → Act → World → Prop) (W wo V : World) (d : Dat) (n k : Nat) (nl : Bool) (E : Nat → Nat) (sv : Value) (g o cap : Nat) (hn : n ≤ 4096) (hlt : k < n) (hNk : d.Nn k ≤ 65536)
    (hs1 : Sees wo (d.An k) (d.Nn k) (fun j => .string (d.S k j))) (hSz : ∀ j, (d.S k j).size ≤ maxLen)
    (hR : R2 d W n nl k E sv wo) (hc : Cur (d.S k) (d.num k) wo (dcell d k) (d.T k) false (if d.O k && decide (0 < k) then ptr (E (k - 1)) else .pointer none) g o cap (d.Nn k) V)
    (u0 u1 u2 u3 u4 u5 u6 u9 u12 u13 u14 u15 u16 u17 u18 u19 u20 u21 u22 u23 u24 u25 u26 u27 u28 u29 u30 u31 u32 u33 u34 u35 u36 u37 u38 u39 u40 u41 u42 u43 u44 u45 u46 u47 u48 u49 u50 u51 u52 u53 u54 u55 u56 u57 u58 u59 u60 u61 u62 u63 u64 u65 u66 u67 u68 u69 u70 u71 u72 u73 u74 u75 u76 u77 u78 u79 u80 u81 u82 u83 u84 u85 u86 u87 u88 u89 u90 u91 u92 u93 u94 u95 u96 u97 u98 u99 u100 u101 u102 u103 u104 u105 u106 u107 u108 u109 u110 u111 u112 u113 u114 u115 u116 u117 u118 u119 u120 u121 u122 u123 u124 u125 u126 u127 u128 u129 u130 u131 u132 u133 u134 u135 u136 u137 u138 u139 u140 u141 u142 u143 u144 u145 u146 u147 u148 u149 u150 u151 u152 u153 u154 u155 u156 u157 u158 u159 u160 u161 u162 u163 u164 u165 u166 u167 u168 u169 u170 u171 u172 u173 u174 u175 u176 u177 u178 u179 u180 u181 u182 u183 u184 u185 u186 u187 u188 u189 u190 u191 u192 u193 u194 u195 u196 u197 u198 u199 u200 u201 u202 u203 u204 u205 u206 u207 u208 u209 u210 u211 u212 u213 u214 u215 u216 u217 u218 u219 u220 u221 u222 u223 u224 u225 u226 u227 u228 u229 u230 u231 u232 u233 u234 u235 u236 u237 u238 u239 u240 u241 u242 u243 u244 u245 u246 u247 u248 u249 u250 u251 u252 u253 u254 u255 u256 u257 u258 u259 u260 u261 u262 u263 u264 u265 u266 u267 u268 u269 u270 u271 u272 u273 u274 u275 u276 u277 u278 u279 u280 u281 u282 u283 u284 u285 u286 u287 u288 u289 u290 u291 u292 u293 u294 u295 u296 u297 u298 u299 u300 u301 u302 u303 u304 u305 u306 u307 u308 u309 u310 u311 u312 u313 u314 u315 u316 u317 : Value)
    (hQ : ∀ (x14 x118 x119 x120 x121 x122 x123 x124 x125 x126 x127 x128 x129 x130 x131 x132 x133 x134 x135 x136 x137 x138 x139 x140 x141 x142 x143 x144 x145 x146 x147 x148 : Value) (W' : World) (E' : Nat → Nat) (sv' : Value), R2 d W n nl (k + 1) E' sv' W' → Q .normal ⟨#[u0, u1, u2, u3, u4, u5, u6, .slice (some ⟨W.heap.size, 0, none⟩) (k + 1) n, .pointer (some ⟨W.heap.size + 1, 0, none⟩), u9, .pointer (some ⟨wo.heap.size, 0, none⟩), .pointer (some ⟨wo.heap.size + 1, 0, none⟩), u12, u13, x14, u15, u16, u17, u18, u19, u20, u21, u22, u23, u24, u25, u26, u27, u28, u29, u30, u31, u32, u33, u34, u35, u36, u37, u38, u39, u40, u41, u42, u43, u44, u45, u46, u47, u48, u49, u50, u51, u52, u53, u54, u55, u56, u57, u58, u59, u60, u61, u62, u63, u64, u65, u66, u67, u68, u69, u70, u71, u72, u73, u74, u75, u76, u77, u78, u79, u80, u81, u82, u83, u84, u85, u86, u87, u88, u89, u90, u91, u92, u93, u94, u95, u96, u97, u98, u99, u100, u101, u102, u103, u104, u105, u106, u107, u108, u109, u110, u111, u112, u113, u114, u115, u116, u117, x118, x119, x120, x121, x122, x123, x124, x125, x126, x127, x128, x129, x130, x131, x132, x133, x134, x135, x136, x137, x138, x139, x140, x141, x142, x143, x144, x145, x146, x147, x148, u149, u150, u151, u152, u153, u154, u155, u156, u157, u158, u159, u160, u161, u162, u163, u164, u165, u166, u167, u168, u169, u170, u171, u172, u173, u174, u175, u176, u177, u178, u179, u180, u181, u182, u183, u184, u185, u186, u187, u188, u189, u190, u191, u192, u193, u194, u195, u196, u197, u198, u199, u200, u201, u202, u203, u204, u205, u206, u207, u208, u209, u210, u211, u212, u213, u214, u215, u216, u217, u218, u219, u220, u221, u222, u223, u224, u225, u226, u227, u228, u229, u230, u231, u232, u233, u234, u235, u236, u237, u238, u239, u240, u241, u242, u243, u244, u245, u246, u247, u248, u249, u250, u251, u252, u253, u254, u255, u256, u257, u258, u259, u260, u261, u262, u263, u264, u265, u266, u267, u268, u269, u270, u271, u272, u273, u274, u275, u276, u277, u278, u279, u280, u281, u282, u283, u284, u285, u286, u287, u288, u289, u290, u291, u292, u293, u294, u295, u296, u297, u298, u299, u300, u301, u302, u303, u304, u305, u306, u307, u308, u309, u310, u311, u312, u313, u314, u315, u316, u317], []⟩ W') :
    Code.wp Yba.prog (chain 32 (Yba.f3.body.getD .skip)) Q ⟨#[u0, u1, u2, u3, u4, u5, u6, .slice (some ⟨W.heap.size, 0, none⟩) k n, .pointer (some ⟨W.heap.size + 1, 0, none⟩), u9, .pointer (some ⟨wo.heap.size, 0, none⟩), .pointer (some ⟨wo.heap.size + 1, 0, none⟩), u12, u13, u14, u15, u16, u17, u18, u19, u20, u21, u22, u23, u24, u25, u26, u27, u28, u29, u30, u31, u32, u33, u34, u35, u36, u37, u38, u39, u40, u41, u42, u43, u44, u45, u46, u47, u48, u49, u50, u51, u52, u53, u54, u55, u56, u57, u58, u59, u60, u61, u62, u63, u64, u65, u66, u67, u68, u69, u70, u71, u72, u73, u74, u75, u76, u77, u78, u79, u80, u81, u82, u83, u84, u85, u86, u87, u88, u89, u90, u91, u92, u93, u94, u95, u96, u97, u98, u99, u100, u101, u102, u103, u104, u105, u106, u107, u108, u109, u110, u111, u112, u113, u114, u115, u116, u117, u118, u119, u120, u121, u122, u123, u124, u125, u126, u127, u128, u129, u130, u131, u132, u133, u134, u135, u136, u137, u138, u139, u140, u141, u142, u143, u144, u145, u146, u147, u148, u149, u150, u151, u152, u153, u154, u155, u156, u157, u158, u159, u160, u161, u162, u163, u164, u165, u166, u167, u168, u169, u170, u171, u172, u173, u174, u175, u176, u177, u178, u179, u180, u181, u182, u183, u184, u185, u186, u187, u188, u189, u190, u191, u192, u193, u194, u195, u196, u197, u198, u199, u200, u201, u202, u203, u204, u205, u206, u207, u208, u209, u210, u211, u212, u213, u214, u215, u216, u217, u218, u219, u220, u221, u222, u223, u224, u225, u226, u227, u228, u229, u230, u231, u232, u233, u234, u235, u236, u237, u238, u239, u240, u241, u242, u243, u244, u245, u246, u247, u248, u249, u250, u251, u252, u253, u254, u255, u256, u257, u258, u259, u260, u261, u262, u263, u264, u265, u266, u267, u268, u269, u270, u271, u272, u273, u274, u275, u276, u277, u278, u279, u280, u281, u282, u283, u284, u285, u286, u287, u288, u289, u290, u291, u292, u293, u294, u295, u296, u297, u298, u299, u300, u301, u302, u303, u304, u305, u306, u307, u308, u309, u310, u311, u312, u313, u314, u315, u316, u317], []⟩ V := by
  conv => arg 2; whnf
  have HQ := show Hid _ from hQ
  have HSz := show Hid (∀ j, (d.S k j).size ≤ maxLen) from hSz
  clear hQ hSz
  obtain ⟨⟨tm, im, q0, q2⟩, q1, q7, qf, qd, qs⟩ := hc.facts
  have d0 : V.cell? ⟨wo.heap.size, 0, none⟩ = some (.slice (d.An k) (d.Nn k) (d.Nc k)) := qd 0 (by omega)
  have QF := show Hid _ from qf
  clear qf qd q0 q1 q7
  go_upto_if 121 with (fail)
  go_cut [] from 118 to 148 (fun wx => Cur (d.S k) (d.num k) wo (dcell d k) (d.T k) (decide (2 < d.Nn k)) (if d.O k && decide (0 < k) then ptr (E (k - 1)) else .pointer none) g o cap (d.Nn k) wx)
  case first =>
    by_cases h2 : 2 < d.Nn k
    · have h2' : (2 : Int) < (d.Nn k : Int) := by omega
      have hde : decide (2 < d.Nn k) = true := decide_eq_true h2
      have HDE := show Hid _ from hde
      clear hde
      have hmm := @run_makeMap Yba.prog
      have s2 : ∀ ob, (V.alloc ob).cell? ⟨wo.heap.size + 1, 2, none⟩ = some (.map im) := fun ob => (World.cell?_alloc_lt _ _ _ (by show wo.heap.size + 1 < _; omega)).trans q2
      have sf2 : ∀ ob, (V.alloc ob).frozen? ⟨wo.heap.size + 1, 2, none⟩ = false := fun ob => (World.frozen?_alloc_old _ _ _ (by show wo.heap.size + 1 ≠ _; omega)).trans (QF.out 2)
      have hV1 : Below V.heap.size V (V.alloc (.map #[] 0)) := (Below.refl _ _).alloc (Nat.le_refl _) _
      have hc2 := (hc.later hV1).setIndex V.heap.size
      have hm2 : ((V.alloc (.map #[] 0)).setCell ⟨wo.heap.size + 1, 2, none⟩ (.map (some V.heap.size))).ownsMap Yba.prog 9 (plainElem (H := Unit) Yba.prog 3) V.heap.size 0 (.map []) := by
        obtain ⟨es, cl, e1, e2⟩ := World.ownsMap_made V Yba.prog 9 (plainElem (H := Unit) Yba.prog 3)
        exact ⟨es, cl, by rw [Below.heap_setCell _ _ _ _ (by show V.heap.size ≠ wo.heap.size + 1; omega)]; exact e1, e2⟩
      have hq2 : ((V.alloc (.map #[] 0)).setCell ⟨wo.heap.size + 1, 2, none⟩ (.map (some V.heap.size))).cell? ⟨wo.heap.size + 1, 2, none⟩ = some (.map (some V.heap.size)) := World.cell?_setCell_same _ _ _ (s2 _)
      have t0 : ∀ x ob, ((V.alloc ob).setCell ⟨wo.heap.size + 1, 2, none⟩ x).cell? ⟨wo.heap.size, 0, none⟩ = some (.slice (d.An k) (d.Nn k) (d.Nc k)) := fun x ob => by
        rw [World.cell?_of_block (w := V.alloc ob) (Below.heap_setCell _ _ _ _ (by show wo.heap.size ≠ wo.heap.size + 1; omega)), World.cell?_alloc_lt _ _ _ (by show wo.heap.size < _; omega)]; exact d0
      have HC2 := show Hid _ from And.intro hc2 (And.intro hm2 hq2)
      clear hc2 hm2 hq2
      go_wp2_with fail
      go_loopg [129] (d.Nn k) (fun gh s129 wx => ∃ i : Nat, i ≤ d.Nn k ∧ d.Nn k - i ≤ gh ∧ s129 = .int .i64 i ∧ Cur (d.S k) (d.num k) wo (dcell d k) (d.T k) true (if d.O k && decide (0 < k) then ptr (E (k - 1)) else .pointer none) g o cap (d.Nn k) wx ∧
          (∃ Dd, wx.ownsMap Yba.prog 9 (plainElem (H := Unit) Yba.prog 3) V.heap.size i Dd) ∧ wx.cell? ⟨wo.heap.size + 1, 2, none⟩ = some (.map (some V.heap.size)))
      case atStart => exact ⟨0, Nat.zero_le _, by omega, rfl, HC2.out.1, ⟨_, HC2.out.2.1⟩, HC2.out.2.2⟩
      case round =>
        clear s2 sf2 t0 hV1 HC2 QF q2 d0 hmm
        obtain ⟨i, hi, hgh, rfl, hcx, ⟨Dd, hmx⟩, hqx⟩ := hrel
        by_cases hil : i < d.Nn k
        · rcases hs1 with hs1 | ⟨b1, o1, e1, hs1⟩
          · omega
          have n1 : wr.cell? ⟨b1, o1 + i, none⟩ = some (.string (d.S k i)) := cell_later hcx.1 (hs1 i hil)
          have d0 : wr.cell? ⟨wo.heap.size, 0, none⟩ = some (.slice (some ⟨b1, o1, none⟩) (d.Nn k) (d.Nc k)) := e1 ▸ hcx.facts.2.2.2.2.1 0 (by omega)
          have hi0 : (0 : Int) ≤ (i : Int) := Int.natCast_nonneg _
          have hi1 : (i : Int) < (d.Nn k : Int) := by omega
          obtain ⟨w1, hrun, hm1, hg1⟩ := hmx.drew.update keyed9 Yba.underlying40 (by unfold maxLen; omega) (Go.WideMaps.keyOf_string_mk Yba.underlying9 (HSz.out i)) (plainElem_int (H := Unit) (a := (i : Int)) Yba.underlying3 (WalkArith.wf_i64 (by omega)))
          have hmb : ∃ es c, wr.drew.heap[V.heap.size]? = some (.map es c) := by obtain ⟨es, cl, e, _⟩ := hmx; exact ⟨es, cl, e⟩
          have hc1 := hcx.drew.mapped hg1 hmb (by omega)
          obtain ⟨es, cl, hmb⟩ := hmb
          have far : ∀ (b : Nat) (q : Nat) (x : Value), wr.cell? ⟨b, q, none⟩ = some x → w1.cell? ⟨b, q, none⟩ = some x := fun b q x hx => by
            have hlt := World.block_lt_of_cell? wr _ hx
            have hne : b ≠ V.heap.size := by
              rintro rfl
              have : wr.heap[V.heap.size]? = some (.map es cl) := hmb
              simp [World.cell?, this] at hx
            rw [World.cell?_of_block (w := wr) (hg1.block b hlt (by simp [hne]))]; exact hx
          have c1 := far _ _ _ hqx
          have c2 := far _ _ _ d0
          have c3 := far _ _ _ n1
          have HC1 := show Hid _ from And.intro hc1 hm1
          have H1 := show Hid _ from hs1
          have HE1 := show Hid _ from e1
          have HFar := show Hid _ from far
          clear hc1 hm1 hg1 hs1 e1 far hmb hcx hmx
          go_wp2_with fail
          go_region_held3 (fun w' => w'.cell? ⟨wo.heap.size + 1, 2, none⟩ = some (.map (some V.heap.size)) ∧ w'.cell? ⟨wo.heap.size, 0, none⟩ = some (.slice (some ⟨b1, o1, none⟩) (d.Nn k) (d.Nc k)) ∧ w'.cell? ⟨b1, o1 + i, none⟩ = some (.string (d.S k i)))
            (go_keep) (fail)
          go_wp2_with fail
          go_roundg (d.Nn k - (i + 1))
          case measure => omega
          case rel => exact ⟨i + 1, by omega, by omega, by go_num, HC1.out.1, ⟨_, HC1.out.2⟩, c1⟩
        · go_wp2_with fail
          go_meet
          case rel => rw [HDE.out]; exact hcx
    · have h2' : (d.Nn k : Int) ≤ 2 := by omega
      have hde : decide (2 < d.Nn k) = false := decide_eq_false h2
      have HDE := show Hid _ from hde
      clear hde
      go_wp2_with fail
      go_meet
      case rel => rw [HDE.out]; exact hc
  case rest =>
    clear hc q2 d0 QF qs
    obtain ⟨Va, rfl⟩ : ∃ Va : World, Va = wc := ⟨_, rfl⟩
    have hc := hcut
    clear hcut
    obtain ⟨i0, hi, hz0, hz1, hz2⟩ := info_parts Yba.info30
    have hEnv := hc.env
    have hcb := hc.1
    have hcs := hc.facts.2.2.2.2.2
    have hsz := hR.siz
    have hpt := own_later hR.pt hcb
    go_wp2_with (at_builtin; refine wpList_append_fits _ rfl _ _ 27 rfl W.heap.size 30 i0 1 Yba.underlying27 hi hz1 W.heap.size k n (ptrs E k) rfl ?qown ⟨Va.heap.size, 0, none⟩ 1 1 [ptr (wo.heap.size + 1)] rfl rfl ?qc1 ?qc2 (by omega) ?_)
    case qown => exact hpt.alloc _
    case qc1 =>
      intro j u hj
      match j, hj with
      | 0, hj => simp at hj; subst hj; simp; rfl
    case qc2 => first | rfl | (intro u hu; simp at hu; subst hu; rfl)
    intro w2 hown2 hgrow2
    have hB2 : w2.heap[W.heap.size + 1]? = some (.cells #[sv] 29 (0, 0)) := by
      rw [hgrow2.block _ (by simp; omega) (by simp), Below.heap_alloc _ _ _ (by omega), hcb.block _ (by omega)]; exact hR.bb
    have hsp2 : w2.ownsRow (W.heap.size + 2) 30 1 sv k (ptrs E k) := (((own_later hR.sp hcb).alloc _)).kept hgrow2 (.inr (fun hh => by
      have := ((own_later hR.sp hcb).lt _ hh).1
      omega))
    have hs2 : Va.heap.size + 1 ≤ w2.heap.size := by have := hgrow2.size; simpa using this
    have HE := show Hid _ from And.intro hEnv (And.intro hown2 hgrow2)
    clear hEnv hown2 hgrow2 hpt
    go_wp2_with fail
    refine (show Calls Yba.prog 6 #[.pointer (some ⟨W.heap.size + 1, 0, none⟩), .pointer (some ⟨wo.heap.size + 1, 0, none⟩)] w2 _ from release_any w2 (W.heap.size + 1) (W.heap.size + 2) k (wo.heap.size + 1) sv (ptrs E k) hB2 (by omega) (by omega) hsp2 (by omega)).mono ?_
    rintro e w3 ⟨rfl, g3, cap3, r1, r2, r3, r4⟩
    have hstep := hR.step hcb HE.out.1 (by omega) HE.out.2.1 HE.out.2.2 r1 r2 r3 r4
    have HS := show Hid _ from hstep
    clear hstep r1 r2 r3 r4 hB2 hsp2
    dsimp only
    go_wp2_with fail
    apply HQ.out
    exact HS.out
end Go.Proofs.Ybulkexnoc
