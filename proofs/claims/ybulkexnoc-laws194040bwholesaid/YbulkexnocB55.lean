import Derived.Test.YbulkexnocB82
import Derived.Deep.DeepCutAuto
namespace Go.Proofs.Ybulkexnoc
open Go.RowKit
set_option linter.unusedVariables false

theorem Yba.info45 : (Yba.prog.info? 45).map (fun i => decide (i.size = 0)) = some false := by kernel_rfl
theorem info45 : ∃ j, Yba.prog.info? 45 = some j ∧ j.size ≠ 0 := by
  have h := Yba.info45
  cases e : Yba.prog.info? 45 with
  | none => rw [e] at h; simp at h
  | some j => rw [e] at h; simp at h; exact ⟨j, rfl, h⟩
theorem neq_same (E : Nat) (V : World) : (binOp .neq 30 (.pointer (some ⟨E, 0, none⟩)) (.pointer (some ⟨E, 0, none⟩))).run Yba.prog V = .ok (.bool false) V := by
  obtain ⟨j, hj, hz⟩ := info45
  have h : ∀ d : Nat, (Op.equalIn (d + 1) 30 (.pointer (some ⟨E, 0, none⟩)) (.pointer (some ⟨E, 0, none⟩))).run Yba.prog V = .ok true V := fun d => by
    simp [Op.equalIn, run_underlying Yba.underlying30, sizeOf, typeInfo, hj, run_sameAddr_same]
  have h' : (Op.equal 30 (.pointer (some ⟨E, 0, none⟩)) (.pointer (some ⟨E, 0, none⟩))).run Yba.prog V = .ok true V := h 9999
  simp only [binOp]
  simp [h']
theorem neq_map38 (tm : Option Nat) (V : World) : (binOp .neq 38 (.map tm) (.map none)).run Yba.prog V = .ok (.bool tm.isSome) V := by
  cases tm <;> kernel_rfl
theorem neq_map40 (tm : Option Nat) (V : World) : (binOp .neq 40 (.map tm) (.map none)).run Yba.prog V = .ok (.bool tm.isSome) V := by
  cases tm <;> kernel_rfl

theorem cell_heap {V W : World} (h : V.heap = W.heap) (a : Addr) : V.cell? a = W.cell? a := by simp [World.cell?, h]

/-- What the last looks read. -/
structure Fin (d : Dat) (B m g cap : Nat) (E : Nat → Nat) (p0 : Option Addr) (V : World) : Prop where
  bb : V.cell? ⟨B + 1, 0, none⟩ = some (.slice (some ⟨g, 0, none⟩) m cap)
  spc : ∀ i, i < m → V.cell? ⟨g, i, none⟩ = some (ptr (E i))
  ptc : ∀ i, i < m + 1 → V.cell? ⟨B, i, none⟩ = some (ptr (E i))
  env : ∀ i, i < m → EnvAt (d.T i) (d.O i) (decide (0 < i)) (d.Nn i) (d.S i) (d.num i) (E i) (E (i - 1)) V
  see : SeesE V p0 (m + 1) d
  got : V.rowIs (E m) 45 8 (fun i => (fresh (E m) (.map none) (.pointer none)).getD i undef)
theorem Fin.later {d : Dat} {B m g cap : Nat} {E : Nat → Nat} {p0 : Option Addr} {V V' : World} (h : Fin d B m g cap E p0 V) (hb : Below V.heap.size V V') : Fin d B m g cap E p0 V' :=
  ⟨cell_later hb h.bb, fun i hi => cell_later hb (h.spc i hi), fun i hi => cell_later hb (h.ptc i hi), fun i hi => (h.env i hi).later hb, h.see.later hb, h.got.of_block (hb.block _ h.got.lt)⟩

set_option maxHeartbeats 2000000 in
set_option maxRecDepth 100000 in
theorem b55 (w0 V : World) (d : Dat) (B m g cap n7 c0 : Nat) (E : Nat → Nat) (p0 : Option Addr) (hm : m ≤ 4096) (hmc : m ≤ cap) (hcm : cap ≤ maxLen) (hm7 : m + 1 ≤ n7) (hN : ∀ i, i < m + 1 → d.Nn i ≤ 65536) (hM : ∀ i, i < m + 1 → d.Mn i ≤ 9223372036854775807)
    (hf : Fin d B m g cap E p0 V) (hG : w0.heap.size ≤ E m) (hb : Below w0.heap.size w0 V) (K : Act → World → Prop)
    (hK : ∀ a w, Code.wp Yba.prog (chain 82 (Yba.f3.body.getD .skip)) (bodyPost Yba.prog Yba.f3 fun e w' => e = .returned (.bool true) ∧ Below w0.heap.size w0 w') a w → K a w)
    (u1 u2 u3 u4 u5 u6 u9 u10 u11 u12 u13 u14 u17 u18 u19 u20 u21 u22 u23 u24 u25 u26 u27 u28 u29 u30 u31 u32 u33 u34 u35 u36 u37 u38 u39 u40 u41 u42 u43 u44 u45 u46 u47 u48 u49 u50 u51 u52 u53 u54 u55 u56 u57 u58 u59 u60 u61 u62 u63 u64 u65 u66 u67 u68 u69 u70 u71 u72 u73 u74 u75 u76 u77 u78 u79 u80 u81 u82 u83 u84 u85 u86 u87 u88 u89 u90 u91 u92 u93 u94 u95 u96 u97 u98 u99 u100 u101 u102 u103 u104 u105 u106 u107 u108 u109 u110 u111 u112 u113 u114 u115 u116 u117 u118 u119 u120 u121 u122 u123 u124 u125 u126 u127 u128 u129 u130 u131 u132 u133 u134 u135 u136 u137 u138 u139 u140 u141 u142 u143 u144 u145 u146 u147 u148 u149 u150 u151 u152 u153 u154 u155 u156 u157 u158 u159 u160 u161 u162 u163 u164 u165 u166 u167 u168 u169 u170 u171 u172 u173 u174 u175 u176 u177 u178 u179 u180 u181 u182 u183 u184 u185 u186 u187 u188 u189 u190 u191 u192 u193 u194 u195 u196 u197 u198 u199 u200 u201 u202 u203 u204 u205 u206 u207 u208 u209 u210 u211 u212 u213 u214 u215 u216 u217 u218 u219 u220 u221 u222 u223 u224 u225 u226 u227 u228 u229 u230 u231 u232 u233 u234 u235 u236 u237 u238 u239 u240 u241 u242 u243 u244 u245 u246 u247 u248 u249 u250 u251 u252 u253 u254 u255 u256 u257 u258 u259 u260 u261 u262 u263 u264 u265 u266 u267 u268 u269 u270 u271 u272 u273 u274 u275 u276 u277 u278 u279 u280 u281 u282 u283 u284 u285 u286 u287 u288 u289 u290 u291 u292 u293 u294 u295 u296 u297 u298 u299 u300 u301 u302 u303 u304 u305 u306 u307 u308 u309 u310 u311 u312 u313 u314 u315 u316 u317 : Value) :
    Code.wp Yba.prog (chain 55 (Yba.f3.body.getD .skip)) (Exit.then K (bodyPost Yba.prog Yba.f3 fun e w' => e = .returned (.bool true) ∧ Below w0.heap.size w0 w'))
      ⟨#[.slice p0 (m + 1) c0, u1, u2, u3, u4, u5, u6, .slice (some ⟨B, 0, none⟩) (m + 1) n7, .pointer (some ⟨B + 1, 0, none⟩), u9, u10, u11, u12, u13, u14, .int .i64 ((m : Int) + 1), .pointer (some ⟨E m, 0, none⟩), u17, u18, u19, u20, u21, u22, u23, u24, u25, u26, u27, u28, u29, u30, u31, u32, u33, u34, u35, u36, u37, u38, u39, u40, u41, u42, u43, u44, u45, u46, u47, u48, u49, u50, u51, u52, u53, u54, u55, u56, u57, u58, u59, u60, u61, u62, u63, u64, u65, u66, u67, u68, u69, u70, u71, u72, u73, u74, u75, u76, u77, u78, u79, u80, u81, u82, u83, u84, u85, u86, u87, u88, u89, u90, u91, u92, u93, u94, u95, u96, u97, u98, u99, u100, u101, u102, u103, u104, u105, u106, u107, u108, u109, u110, u111, u112, u113, u114, u115, u116, u117, u118, u119, u120, u121, u122, u123, u124, u125, u126, u127, u128, u129, u130, u131, u132, u133, u134, u135, u136, u137, u138, u139, u140, u141, u142, u143, u144, u145, u146, u147, u148, u149, u150, u151, u152, u153, u154, u155, u156, u157, u158, u159, u160, u161, u162, u163, u164, u165, u166, u167, u168, u169, u170, u171, u172, u173, u174, u175, u176, u177, u178, u179, u180, u181, u182, u183, u184, u185, u186, u187, u188, u189, u190, u191, u192, u193, u194, u195, u196, u197, u198, u199, u200, u201, u202, u203, u204, u205, u206, u207, u208, u209, u210, u211, u212, u213, u214, u215, u216, u217, u218, u219, u220, u221, u222, u223, u224, u225, u226, u227, u228, u229, u230, u231, u232, u233, u234, u235, u236, u237, u238, u239, u240, u241, u242, u243, u244, u245, u246, u247, u248, u249, u250, u251, u252, u253, u254, u255, u256, u257, u258, u259, u260, u261, u262, u263, u264, u265, u266, u267, u268, u269, u270, u271, u272, u273, u274, u275, u276, u277, u278, u279, u280, u281, u282, u283, u284, u285, u286, u287, u288, u289, u290, u291, u292, u293, u294, u295, u296, u297, u298, u299, u300, u301, u302, u303, u304, u305, u306, u307, u308, u309, u310, u311, u312, u313, u314, u315, u316, u317], []⟩ V := by
  conv => arg 2; whnf
  unfold maxLen at hcm
  have HN := show Hid (∀ i, i < m + 1 → d.Nn i ≤ 65536) from hN
  have HM := show Hid (∀ i, i < m + 1 → d.Mn i ≤ 9223372036854775807) from hM
  have HK := show Hid _ from hK
  clear hN hM hK
  go_wp2_with fail
  go_loopg [17] m (fun gh s17 wx => ∃ i : Nat, i ≤ m ∧ m - i ≤ gh ∧ s17 = .int .i64 i ∧ Below V.heap.size V wx)
  case atStart => exact ⟨0, Nat.zero_le _, by omega, rfl, Below.refl _ _⟩
  case round =>
    obtain ⟨wo, rfl⟩ : ∃ wo : World, wo = wr := ⟨_, rfl⟩
    obtain ⟨i, hi, hgh, rfl, hbx⟩ := hrel
    by_cases hil : i < m
    · have hF := hf.later hbx
      have bb := hF.bb
      have sp := hF.spc i hil
      have pt := hF.ptc i (by omega)
      unfold ptr at sp pt
      have hne := neq_same (E i)
      rcases hF.see with h0 | ⟨b1, o1, e0, h0⟩
      · omega
      obtain ⟨e1, e2, e3, e4, e5, e6⟩ := h0 i (by omega)
      have HF := show Hid _ from hF
      clear hF h0
      subst e0
      have hNi := HN.out i (by omega)
      have hMi := HM.out i (by omega)
      go_upto_region 62 with (fail)
      have hV1 : Below wo.heap.size wo (wo.alloc (.cells #[.slice (d.An i) (d.Nn i) (d.Nc i), .slice (d.Am i) (d.Mn i) (d.Mc i), .bool (d.T i), .bool (d.O i)] 26)) := (Below.refl _ _).alloc (Nat.le_refl _) _
      have dD := heap_alloc_new wo (.cells #[.slice (d.An i) (d.Nn i) (d.Nc i), .slice (d.Am i) (d.Mn i) (d.Mc i), .bool (d.T i), .bool (d.O i)] 26)
      generalize wo.alloc (.cells #[.slice (d.An i) (d.Nn i) (d.Nc i), .slice (d.Am i) (d.Mn i) (d.Mc i), .bool (d.T i), .bool (d.O i)] 26) = V1 at *
      have d0 : V1.cell? ⟨wo.heap.size, 0, none⟩ = some (.slice (d.An i) (d.Nn i) (d.Nc i)) := by simp [World.cell?, dD]
      have d1 : V1.cell? ⟨wo.heap.size, 1, none⟩ = some (.slice (d.Am i) (d.Mn i) (d.Mc i)) := by simp [World.cell?, dD]
      have d2 : V1.cell? ⟨wo.heap.size, 2, none⟩ = some (.bool (d.T i)) := by simp [World.cell?, dD]
      have d3 : V1.cell? ⟨wo.heap.size, 3, none⟩ = some (.bool (d.O i)) := by simp [World.cell?, dD]
      have hb1 : Below V.heap.size V V1 := below_next hbx hV1
      have hF1 := HF.out.later hV1
      obtain ⟨F, gg, oo, cc, tm, im, a1, a2, a3, a4, a5, a6, a7, a8, a9⟩ := hF1.env i hil
      have c0 : V1.cell? ⟨E i, 0, none⟩ = some (.map tm) := by rw [a1.cell (by omega), a2]
      have c1 : V1.cell? ⟨E i, 1, none⟩ = some (.slice (some ⟨gg, oo, none⟩) (d.Nn i) cc) := by rw [a1.cell (by omega), a4]
      have c2 : V1.cell? ⟨E i, 2, none⟩ = some (.map im) := by rw [a1.cell (by omega), a5]
      obtain ⟨po, hov⟩ : ∃ po, Value.pointer po = (if d.O i && decide (0 < i) then ptr (E (i - 1)) else .pointer none) := by
        split
        · exact ⟨_, rfl⟩
        · exact ⟨none, rfl⟩
      have c7 : V1.cell? ⟨E i, 7, none⟩ = some (.pointer po) := by rw [a1.cell (by omega), a7, hov]
      have n38 : ∀ V, (binOp .neq 38 (.map tm) (.map none)).run Yba.prog V = .ok (.bool (d.T i)) V := fun V => by rw [neq_map38, a3]
      have n40 : ∀ V, (binOp .neq 40 (.map im) (.map none)).run Yba.prog V = .ok (.bool (decide ((2 : Int) < (d.Nn i : Int)))) V := fun V => by
        rw [neq_map40, a6]
        congr 2
        exact decide_eq_decide.2 (by omega)
      have nov : ∀ V, (binOp .neq 30 (.pointer po) (.pointer po)).run Yba.prog V = .ok (.bool false) V := fun V => by
        rw [hov]
        split
        · exact neq_same _ V
        · kernel_rfl
      have pt1 : 0 < i → V1.cell? ⟨B, i - 1, none⟩ = some (ptr (E (i - 1))) := fun h => hF1.ptc (i - 1) (by omega)
      have A8 := show Hid _ from a8
      have HOV := show Hid _ from hov
      have PT1 := show Hid _ from pt1
      have s5 := (e5.later hV1)
      have s6 := (e6.later hV1)
      clear a1 a2 a3 a4 a5 a6 a7 a8 a9 hov pt1 e1 e2 e3 e4 e5 e6 bb sp pt dD hF1 hV1
      go_quiet (fail)
      go_upto_region 65 with (fail)
      go_cut [214] (fun s214 wx => s214 = .bool (d.O i && decide (0 < i)) ∧ wx.heap = V1.heap ∧ Below V.heap.size V wx)
      case first =>
        cases hO : d.O i
        · go_wp2_with fail
          go_meet
          case rel => exact ⟨by simp [hO], rfl, below_drewN hb1 _⟩
        · go_wp2_with fail
          go_meet
          case rel => exact ⟨by simp [hO], rfl, below_drewN hb1 _⟩
      case rest =>
        obtain ⟨Va, rfl⟩ : ∃ Va : World, Va = wc := ⟨_, rfl⟩
        obtain ⟨rfl, hh, hba⟩ := hcut
        have HH := show Hid (Va.heap = V1.heap) from hh
        clear hh
        go_upto_if 214 with (fail)
        go_cut [20] (fun s20 wx => s20 = .pointer po ∧ wx.heap = V1.heap ∧ Below V.heap.size V wx)
        case first =>
          cases hOP : (d.O i && decide (0 < i))
          · have hv : Value.pointer po = .pointer none := by rw [HOV.out, hOP]; rfl
            have HV := show Hid _ from hv
            clear hv
            go_wp2_with fail
            go_meet
            case rel => exact ⟨by rw [HV.out], HH.out, hba⟩
          · have hk0 : 0 < i := by
              rw [Bool.and_eq_true] at hOP
              exact of_decide_eq_true hOP.2
            have hpt : Va.cell? ⟨B, i - 1, none⟩ = some (ptr (E (i - 1))) := (cell_heap HH.out _).trans (PT1.out hk0)
            have hv : Value.pointer po = ptr (E (i - 1)) := by rw [HOV.out, hOP]; rfl
            have HV := show Hid _ from hv
            clear hv
            unfold ptr at hpt
            obtain ⟨i', rfl⟩ : ∃ i', i = i' + 1 := ⟨i - 1, by omega⟩
            simp only [Nat.add_sub_cancel] at hpt
            go_wp2_with fail
            go_meet
            case rel => exact ⟨by rw [HV.out]; rfl, HH.out, hba⟩
        case rest =>
          clear HH hba
          obtain ⟨Vb, rfl⟩ : ∃ Vb : World, Vb = wc := ⟨_, rfl⟩
          obtain ⟨rfl, hh, hba⟩ := hcut
          have HH := show Hid (Vb.heap = V1.heap) from hh
          have d0' := (cell_heap hh _).trans d0
          have d1' := (cell_heap hh _).trans d1
          have c1' := (cell_heap hh _).trans c1
          have c2' := (cell_heap hh _).trans c2
          have c7' := (cell_heap hh _).trans c7
          clear hh
          go_wp2_with fail
          go_quiet (fail)
          go_wp2_with fail
          go_quiet (fail)
          go_wp2_with fail
          go_loopg [248] (d.Nn i) (fun gh s248 wx => ∃ j : Nat, j ≤ d.Nn i ∧ d.Nn i - j ≤ gh ∧ s248 = .int .i64 j ∧ wx.heap = V1.heap ∧ Below V.heap.size V wx)
          case atStart => exact ⟨0, Nat.zero_le _, by omega, rfl, HH.out, below_drewN hba _⟩
          case round =>
            clear d0' d1' c1' c2' c7' HH hba
            obtain ⟨j, hj, hgj, rfl, hh, hbj⟩ := hrel
            have HH := show Hid (wr.heap = V1.heap) from hh
            have d0' := (cell_heap hh _).trans d0
            have d1' := (cell_heap hh _).trans d1
            have c1' := (cell_heap hh _).trans c1
            clear hh
            by_cases hjl : j < d.Nn i
            · rcases s5 with s5 | ⟨bn, on, en, s5⟩
              · omega
              have n1 := (cell_heap HH.out _).trans (s5 j hjl)
              have m1 := (cell_heap HH.out _).trans (A8.out j hjl).1
              have m2 := (cell_heap HH.out _).trans (A8.out j hjl).2
              have S5 := show Hid _ from s5
              have EN := show Hid _ from en
              rw [en] at d0'
              clear s5 en
              have hj0 : (0 : Int) ≤ (j : Int) := Int.natCast_nonneg _
              have hj1 : (j : Int) < (d.Nn i : Int) := by omega
              go_upto_if 255 with (fail)
              go_cut [22] (fun s22 wx => s22 = .int .i64 (d.num i j) ∧ wx.heap = V1.heap ∧ Below V.heap.size V wx)
              case first =>
                rcases Nat.eq_zero_or_pos (d.Mn i) with hM0 | hMp
                · have hv : d.num i j = (j : Int) := by simp [Dat.num, hM0]
                  have HV := show Hid _ from hv
                  have hm1 : (d.Mn i : Int) ≤ 0 := by omega
                  clear hv hM0
                  go_wp2_with fail
                  go_meet
                  case rel => exact ⟨by rw [HV.out], HH.out, hbj⟩
                · have hv : d.num i j = d.Z i (j % d.Mn i) := by simp only [Dat.num]; rw [if_neg (by omega)]
                  have HV := show Hid _ from hv
                  have hm1 : (0 : Int) < (d.Mn i : Int) := by omega
                  have hml : j % d.Mn i < d.Mn i := Nat.mod_lt _ hMp
                  have hmm : (j : Int) % (d.Mn i : Int) = ((j % d.Mn i : Nat) : Int) := (Int.natCast_emod _ _).symm
                  have hm2 : (0 : Int) ≤ ((j % d.Mn i : Nat) : Int) := by omega
                  have hm3 : ((j % d.Mn i : Nat) : Int) < (d.Mn i : Int) := by omega
                  rcases s6 with s6 | ⟨b2, o2, e2, s6⟩
                  · omega
                  have n2 : wr.cell? ⟨b2, o2 + j % d.Mn i, none⟩ = some (.int .i64 (d.Z i (j % d.Mn i))) := (cell_heap HH.out _).trans (s6 _ hml)
                  rw [e2] at d1'
                  clear hv s6 e2
                  generalize j % d.Mn i = r at *
                  go_wp2_with fail
                  go_quiet (fail)
                  go_wp2_with fail
                  go_meet
                  case rel => exact ⟨by rw [HV.out], HH.out, below_drewN hbj _⟩
              case rest =>
                clear d0' d1' c1' n1 m1 m2 HH hbj
                obtain ⟨Vd, rfl⟩ : ∃ Vd : World, Vd = wc := ⟨_, rfl⟩
                obtain ⟨rfl, hh, hbd⟩ := hcut
                have HH := show Hid (Vd.heap = V1.heap) from hh
                have d0' := (cell_heap hh _).trans d0
                have c1' := (cell_heap hh _).trans c1
                have n1 : Vd.cell? ⟨bn, on + j, none⟩ = some (.string (d.S i j)) := (cell_heap HH.out _).trans (S5.out j hjl)
                have m1 := (cell_heap HH.out _).trans (A8.out j hjl).1
                have m2 := (cell_heap HH.out _).trans (A8.out j hjl).2
                rw [EN.out] at d0'
                clear hh
                generalize d.num i j = nm at *
                generalize d.S i j = sj at *
                go_wp2_with fail
                go_quiet (fail)
                go_wp2_with fail
                go_roundg (d.Nn i - (j + 1))
                case measure => omega
                case rel => exact ⟨j + 1, by omega, by omega, by go_num, HH.out, below_drewN hbd _⟩
            · go_wp2_with fail
              go_roundg (m - (i + 1))
              case measure => omega
              case rel => exact ⟨i + 1, by omega, by omega, by go_num, hbj⟩
    · go_wp2_with fail
      refine HK.out _ _ ?_
      apply b82 w0 wo (E m) hG (below_next hb hbx) (hf.later hbx).got
end Go.Proofs.Ybulkexnoc
