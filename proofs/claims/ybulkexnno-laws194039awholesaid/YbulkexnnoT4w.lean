import Derived.Test.YbulkexnnoT4
namespace Go.Proofs.Ybulkexnno
open Go.RowKit
set_option linter.unusedVariables false
variable {κ : Nat → Int} {π : Nat → Bool} {u AT C A N : Nat} {Ab Pb : Nat → Nat}

/-- Which type of the pool is parameter i of candidate c. -/
def ixOf (Ln : Nat → Nat) (Z : Nat → Nat → Nat) (N c i : Nat) : Nat := (if i < Ln c then Z c i else 0) % N

set_option maxHeartbeats 2000000 in
set_option maxRecDepth 100000 in
theorem t4 (w0 W : World) (f4 : Nat → Nat) (Ar : Nat → Option Addr) (Ln Cp : Nat → Nat) (Z : Nat → Nat → Nat) (PB CB RB n4 c4 c3 c2 : Nat) (p2 p3 p4 : Option Addr) (hb : Below w0.heap.size w0 W)
    (hp : Pool κ π PB N Pb W) (hc : W.rowIs CB 5 N (fun i => .int .u8 (κ (Pb i)))) (hr : W.rowIs RB 4 N (fun i => .bool (π (Pb i))))
    (harg : ∀ i, i < A → W.cell? ⟨AT, i, none⟩ = some (.pointer (some ⟨Ab i, 0, none⟩))) (htu : IsT W u (κ u) (π u)) (hta : ∀ i, i < A → IsT W (Ab i) (κ (Ab i)) (π (Ab i)))
    (bN : N ≤ 257) (pN : 0 < N) (bC : C ≤ 256) (bA : A ≤ 256) (b4 : n4 ≤ 4096)
    (h3 : SeesS W p3 C Ar Ln Cp Z) (hZ : ∀ c i, Z c i < 256) (hLn : ∀ c, Ln c ≤ 9223372036854775807)
    (h4 : Sees W p4 n4 (fun i => .int .u8 (f4 i))) (hf4 : ∀ i, f4 i < 256) (hAT : AT < W.heap.size)
    (u0 u1 u5 u6 u7 u8 u9 u10 u13 u14 u17 u18 u20 u21 u22 u23 u24 u25 u26 u27 u28 u29 u30 u31 u32 u33 u34 u35 u36 u37 u38 u39 u40 u41 u42 u43 u44 u45 u46 u47 u48 u49 u50 u51 u52 u53 u54 u55 u56 u57 u58 u59 u60 u61 u62 u63 u64 u65 u66 u67 u68 u69 u70 u71 u72 u73 u74 u75 u76 u77 u78 u79 u80 u81 u82 u83 u84 u85 u86 u87 u88 u89 u90 u91 u92 u93 u94 u95 u96 u97 u98 u99 u100 u101 u102 u103 u104 u105 u106 u107 u108 u109 u110 u111 u112 u113 u114 u115 u116 u117 u118 u119 u120 u121 u122 u123 u124 u125 u126 u127 u128 u129 u130 u131 u132 u133 u134 u135 u136 u137 u138 u139 u140 u141 u142 u143 u144 u145 u146 u147 u148 u149 u150 u151 u152 u153 u154 u155 u156 u157 u158 u159 u160 u161 u162 u163 u164 u165 u166 u167 u168 u169 u170 u171 u172 u173 u174 u175 u176 u177 u178 u179 u180 u181 u182 u183 u184 u185 u186 u187 u188 u189 u190 u191 u192 u193 u194 u195 u196 u197 u198 u199 u200 u201 u202 u203 u204 u205 u206 u207 u208 u209 u210 u211 u212 u213 u214 u215 u216 u217 u218 u219 u220 u221 u222 u223 u224 u225 u226 u227 u228 u229 u230 u231 u232 u233 u234 u235 u236 u237 u238 u239 u240 u241 u242 u243 u244 u245 u246 u247 u248 u249 u250 u251 u252 u253 u254 u255 u256 u257 u258 u259 u260 u261 u262 u263 u264 u265 u266 u267 u268 u269 u270 u271 u272 u273 u274 u275 u276 u277 u278 u279 u280 u281 u282 u283 u284 u285 u286 u287 u288 u289 u290 u291 u292 u293 u294 u295 u296 u297 u298 u299 u300 u301 u302 u303 u304 u305 u306 u307 u308 u309 u310 u311 u312 u313 u314 u315 u316 u317 u318 u319 u320 u321 u322 u323 u324 u325 u326 u327 u328 u329 u330 u331 u332 u333 u334 u335 u336 u337 u338 u339 u340 u341 u342 u343 u344 u345 u346 u347 u348 u349 u350 u351 u352 u353 u354 u355 u356 u357 u358 u359 u360 u361 u362 u363 u364 u365 u366 u367 u368 u369 u370 u371 u372 u373 u374 u375 u376 u377 u378 u379 u380 u381 u382 u383 u384 : Value) :
    Code.wp Yba.prog (dropTo 25 (Yba.f3.body.getD .skip)) (bodyPost Yba.prog Yba.f3 fun e w' => e = .returned (.bool true) ∧ Below w0.heap.size w0 w')
      ⟨#[u0, u1, .slice p2 A c2, .slice p3 C c3, .slice p4 n4 c4, u5, u6, u7, u8, u9, u10, .pointer (some ⟨u, 0, none⟩), .slice (some ⟨PB, 0, none⟩) N N, u13, u14, .slice (some ⟨CB, 0, none⟩) N N, .slice (some ⟨RB, 0, none⟩) N N, u17, u18, .slice (some ⟨AT, 0, none⟩) A A, u20, u21, u22, u23, u24, u25, u26, u27, u28, u29, u30, u31, u32, u33, u34, u35, u36, u37, u38, u39, u40, u41, u42, u43, u44, u45, u46, u47, u48, u49, u50, u51, u52, u53, u54, u55, u56, u57, u58, u59, u60, u61, u62, u63, u64, u65, u66, u67, u68, u69, u70, u71, u72, u73, u74, u75, u76, u77, u78, u79, u80, u81, u82, u83, u84, u85, u86, u87, u88, u89, u90, u91, u92, u93, u94, u95, u96, u97, u98, u99, u100, u101, u102, u103, u104, u105, u106, u107, u108, u109, u110, u111, u112, u113, u114, u115, u116, u117, u118, u119, u120, u121, u122, u123, u124, u125, u126, u127, u128, u129, u130, u131, u132, u133, u134, u135, u136, u137, u138, u139, u140, u141, u142, u143, u144, u145, u146, u147, u148, u149, u150, u151, u152, u153, u154, u155, u156, u157, u158, u159, u160, u161, u162, u163, u164, u165, u166, u167, u168, u169, u170, u171, u172, u173, u174, u175, u176, u177, u178, u179, u180, u181, u182, u183, u184, u185, u186, u187, u188, u189, u190, u191, u192, u193, u194, u195, u196, u197, u198, u199, u200, u201, u202, u203, u204, u205, u206, u207, u208, u209, u210, u211, u212, u213, u214, u215, u216, u217, u218, u219, u220, u221, u222, u223, u224, u225, u226, u227, u228, u229, u230, u231, u232, u233, u234, u235, u236, u237, u238, u239, u240, u241, u242, u243, u244, u245, u246, u247, u248, u249, u250, u251, u252, u253, u254, u255, u256, u257, u258, u259, u260, u261, u262, u263, u264, u265, u266, u267, u268, u269, u270, u271, u272, u273, u274, u275, u276, u277, u278, u279, u280, u281, u282, u283, u284, u285, u286, u287, u288, u289, u290, u291, u292, u293, u294, u295, u296, u297, u298, u299, u300, u301, u302, u303, u304, u305, u306, u307, u308, u309, u310, u311, u312, u313, u314, u315, u316, u317, u318, u319, u320, u321, u322, u323, u324, u325, u326, u327, u328, u329, u330, u331, u332, u333, u334, u335, u336, u337, u338, u339, u340, u341, u342, u343, u344, u345, u346, u347, u348, u349, u350, u351, u352, u353, u354, u355, u356, u357, u358, u359, u360, u361, u362, u363, u364, u365, u366, u367, u368, u369, u370, u371, u372, u373, u374, u375, u376, u377, u378, u379, u380, u381, u382, u383, u384], []⟩ W := by
  conv => arg 2; whnf
  have mk1 := run_make_row' (P := Yba.prog) 35 31 (.slice none 0 0) 24 Yba.underlying35 Yba.info31 rfl .i64 .i64 C (by omega) (by omega)
  have mk2 := run_make_row' (P := Yba.prog) 31 25 (.pointer none) 8 Yba.underlying31 Yba.info25 rfl .i64 .i64 A (by omega) (by omega)
  have HF := show Hid (∀ i, f4 i < 256) from hf4
  have HZ := show Hid (∀ c i, Z c i < 256) from hZ
  have HLn := show Hid (∀ c, Ln c ≤ 9223372036854775807) from hLn
  have HA := show Hid (∀ i, i < A → W.cell? ⟨AT, i, none⟩ = some (.pointer (some ⟨Ab i, 0, none⟩))) from harg
  have HT := show Hid (∀ i, i < A → IsT W (Ab i) (κ (Ab i)) (π (Ab i))) from hta
  clear hf4 hZ hLn harg hta
  go_wp2_with fail
  go_loopw [158] (fun i wr => ∃ k : Nat, ∃ Rb Sb Sc : Nat → Nat, k ≤ C ∧ i = .int .i64 k ∧ Q4 W C A Pb (ixOf Ln Z N) k Rb Sb Sc wr) (fun i _ => C - (intOf i).toNat)
  case atStart => exact ⟨0, fun _ => 0, fun _ => 0, fun _ => 0, Nat.zero_le _, rfl, Q4.start W⟩
  case round =>
    rename_i Kx hKx
    have HK := show Hid _ from hKx
    clear hKx
    obtain ⟨wo, rfl⟩ : ∃ wo : World, wo = wr := ⟨_, rfl⟩
    obtain ⟨k, Rb, Sb, Sc, hk, rfl, hq⟩ := hrel
    by_cases hlt : k < C
    · rcases h3 with h3 | ⟨b, o, rfl, h3⟩
      · omega
      obtain ⟨h3a, h3b⟩ := h3 k hlt
      have g1 := cell_later hq.bel h3a
      have hrowk := h3b.later hq.bel
      have hlk := HLn.out k
      have H3 := show Hid _ from h3
      clear h3 h3a h3b
      have hpo := hp.later hq.bel
      obtain ⟨ark, hark⟩ : ∃ x, x = Ar k := ⟨_, rfl⟩
      obtain ⟨lnk, hlnk⟩ : ∃ x, x = Ln k := ⟨_, rfl⟩
      obtain ⟨cpk, hcpk⟩ : ∃ x, x = Cp k := ⟨_, rfl⟩
      rw [← hark, ← hlnk, ← hcpk] at g1
      rw [← hark, ← hlnk] at hrowk
      rw [← hlnk] at hlk
      have Hln : Hid (lnk = Ln k) := hlnk
      clear hark hlnk hcpk
      go_wp2_with fail
      go_loopg [168] A (fun g s168 wx => ∃ i : Nat, i ≤ A ∧ A - i ≤ g ∧ s168 = .int .i64 i ∧ Below wo.heap.size wo wx ∧ wx.heap.size = wo.heap.size + 1 ∧
          wx.rowIs wo.heap.size 25 A (fun j => if j < i then .pointer (some ⟨Pb (ixOf Ln Z N k j), 0, none⟩) else .pointer none))
      case atStart => exact ⟨0, Nat.zero_le _, by omega, rfl, (Below.refl _ _).alloc (Nat.le_refl _) _, by simp, (World.rowIs_made wo (.pointer none) A 25).congr (fun i _ => by simp)⟩
      case round =>
        obtain ⟨i, hiA, hg, rfl, hbx, hsx, hrx⟩ := hrel
        have HSX := show Hid (wr.heap.size = wo.heap.size + 1) from hsx
        clear hsx
        by_cases hlt2 : i < A
        · obtain ⟨gs, gf⟩ : wr.cell? ⟨wo.heap.size, i, none⟩ = some (.pointer none) ∧ wr.frozen? ⟨wo.heap.size, i, none⟩ = false :=
            ⟨by rw [hrx.cell hlt2]; simp, hrx.frozen i⟩
          have hrr : ixOf Ln Z N k i < N := Nat.mod_lt _ pN
          have gp := cell_later hbx (hpo.row.cell hrr)
          have HR : Hid (∀ j, (if j = i then Value.pointer (some ⟨Pb (ixOf Ln Z N k i), 0, none⟩) else if j < i then Value.pointer (some ⟨Pb (ixOf Ln Z N k j), 0, none⟩) else Value.pointer none) = if j < i + 1 then Value.pointer (some ⟨Pb (ixOf Ln Z N k j), 0, none⟩) else Value.pointer none) := by
            intro j
            by_cases e : j = i
            · subst e; simp
            · by_cases l : j < i
              · simp [e, l, Nat.lt_succ_of_lt l]
              · have : ¬ j < i + 1 := by omega
                simp [e, l, this]
          by_cases hin : i < lnk
          · rcases hrowk with h' | ⟨bb, oo, rfl, hrowk⟩
            · omega
            have g2 : wr.cell? ⟨bb, oo + i, none⟩ = some (.int .u8 (Z k i)) := cell_later hbx (hrowk i hin)
            have hzz := HZ.out k i
            have hm : (Z k i : Int) % (N : Int) = ((ixOf Ln Z N k i : Nat) : Int) := by
              simp only [ixOf]; rw [if_pos (by rw [← Hln.out]; exact hin)]; exact (Int.natCast_emod _ _).symm
            have Hrk := show Hid _ from hrowk
            clear hrowk
            generalize ixOf Ln Z N k i = r at *
            generalize Z k i = zz at *
            go_wp2_with fail
            go_roundg (A - (i + 1))
            case measure => omega
            case rel => exact ⟨i + 1, by omega, by omega, by go_num, hbx.setCell (Nat.le_refl _) _, by simpa using HSX.out, (hrx.set i _).congr (fun j _ => HR.out j)⟩
          · have hm : ixOf Ln Z N k i = 0 := by
              simp only [ixOf]; rw [if_neg (by rw [← Hln.out]; exact hin)]; exact Nat.zero_mod _
            rw [hm] at gp HR hrr
            clear hm
            have hz : (0 : Int) % (N : Int) = 0 := Int.zero_emod _
            go_wp2_with fail
            go_roundg (A - (i + 1))
            case measure => omega
            case rel => exact ⟨i + 1, by omega, by omega, by go_num, hbx.setCell (Nat.le_refl _) _, by simpa using HSX.out, (hrx.set i _).congr (fun j _ => HR.out j)⟩
        · obtain rfl : A = i := by omega
          have hfull : wr.rowIs wo.heap.size 25 A (fun j => .pointer (some ⟨Pb (ixOf Ln Z N k j), 0, none⟩)) := hrx.congr (fun j hj => by simp [hj])
          have gs := cell_later hbx (hq.rt.cell hlt)
          have gf : wr.frozen? ⟨W.heap.size, k, none⟩ = false := (rowIs_later hq.rt hbx).frozen k
          simp only [Nat.lt_irrefl, if_false] at gs
          clear hrx g1 hrowk
          have hkC : (k : Int) < (C : Int) := by omega
          go_wp2_with fail
          have hsz := hq.siz
          have hsz2 := hbx.size
          refine (clone_ptrs wo.heap.size 0 A A (fun j => Pb (ixOf Ln Z N k j)) _ (by omega) (fun j hj => by rw [Nat.zero_add]; exact cell_setCell_block (hfull.cell hj) (by omega)) (by have := hfull.lt; simpa using this)).mono ?_
          rintro e w5 ⟨g, cap, rfl, ⟨hg1, hg2⟩, hgc, hb5⟩
          have hQ := hq.step (cap := cap) hbx hfull hb5 hg1 hgc
          have hrc := rowIs_later ((rowIs_later hq.rc hbx).setOther (a := ⟨W.heap.size, k, none⟩) (by show W.heap.size + 1 ≠ W.heap.size; omega) (.slice (some ⟨wo.heap.size, 0, none⟩) A A)) hb5
          have gs2 : w5.cell? ⟨W.heap.size + 1, k, none⟩ = some (.slice none 0 0) := by rw [hrc.cell hlt]; simp
          have gf2 : w5.frozen? ⟨W.heap.size + 1, k, none⟩ = false := hrc.frozen k
          have HG := show Hid _ from hgc
          clear hgc gs gf hg1 hg2 hfull hrc
          dsimp only
          go_wp2_with fail
          go_roundw
          case rel => exact ⟨k + 1, _, _, _, by omega, by go_num, hQ⟩
          case measure => simp [intOf]; omega
    · obtain rfl : C = k := by omega
      go_wp2_with fail
      refine HK.out _ _ ?_
      have hbel := hq.bel
      have hpo := hp.later hbel
      apply t5 (u := u) (AT := AT) (CT := W.heap.size) (C := C) (A := A) (Ab := Ab) (Rb := Rb) (Qb := fun c i => Pb (ixOf Ln Z N c i)) w0 wo f4 Pb Sb Sc PB CB RB N (W.heap.size + 1) n4 c4 c3 p3 p4 (below_next hb hbel) hpo (rowIs_later hc hbel) (rowIs_later hr hbel)
        ⟨fun i hi => cell_later hbel (HA.out i hi), fun c hc => by rw [hq.rt.cell hc]; simp [hc], hq.r1, htu.later hbel, fun i hi => (HT.out i hi).later hbel, fun c i hc hi => hpo.isT _ (Nat.mod_lt _ pN)⟩
        ⟨fun c hc => by rw [hq.rc.cell hc]; simp [hc], hq.s1⟩ bN bC bA b4 (h4.later hbel) HF.out (Nat.lt_of_lt_of_le hAT hbel.size)
end Go.Proofs.Ybulkexnno
