import Derived.Test.YbulkexnocB15
import Derived.Deep.DeepCutAuto
namespace Go.Proofs.Ybulkexnoc
open Go.RowKit
set_option linter.unusedVariables false

def sumN (f : Nat → Nat) : Nat → Nat
  | 0 => 0
  | k + 1 => sumN f k + f k
theorem le_sumN (f : Nat → Nat) : ∀ (k i : Nat), i < k → f i ≤ sumN f k
  | 0, i, h => by omega
  | k + 1, i, h => by
    simp only [sumN]
    by_cases e : i = k
    · subst e; omega
    · have := le_sumN f k i (by omega); omega
theorem sumN_le (f : Nat → Nat) (n : Nat) (h : ∀ i, i < n → f i ≤ 8796093022208) : ∀ k, k ≤ n → sumN f k ≤ k * 8796093022208
  | 0, _ => by simp [sumN]
  | k + 1, hk => by
    have := sumN_le f n h k (by omega)
    have := h k (by omega)
    simp only [sumN]
    omega

theorem mk27 (n : Nat) (hn : n ≤ 4096) (w : World) : (Instr.makeSlice 27 (.int .i64 0) (.int .i64 (n : Int))).run Yba.prog w = .ok (.slice (some ⟨w.heap.size, 0, none⟩) 0 n) (w.alloc (.cells (madeCells #[.pointer none] n) 30)) := by
  obtain ⟨i0, hi, hz0, hz1, hz2⟩ := info_parts Yba.info30
  have hr := run_make (P := Yba.prog) w 27 30 i0 (.pointer none) Yba.underlying27 hi hz0 .i64 .i64 0 n (Int.le_refl _) (by omega) (by rw [hz2]; omega) (by omega)
  simp only [Int.toNat_zero, Int.toNat_natCast, hz1, Nat.mul_one] at hr
  exact hr

theorem r2_nil (W : World) (d : Dat) (n : Nat) (hn : n ≤ 4096) : R2 d W n true 0 (fun _ => 0) (sv0 true (W.heap.size + 2)) ((W.alloc (.cells (madeCells #[.pointer none] n) 30)).alloc (.cells #[.slice none 0 0] 29)) := by
  refine ⟨((Below.refl _ _).alloc (Nat.le_refl _) _).alloc (by simp) _, by simp, ⟨rfl, .inr ⟨W.heap.size, n, madeCells #[.pointer none] n, rfl, Nat.le_refl _, ?_, by omega, by simp only [maxLen]; omega, ?_, by simp [ptrs]⟩⟩, ?_, ⟨rfl, .inl ⟨rfl, rfl⟩⟩, fun _ => rfl, fun i hi => by omega, fun i j _ hj => by omega, fun i hi => by omega⟩
  · rw [Below.heap_alloc _ _ _ (by simp)]; exact heap_alloc_new W _
  · rw [size_madeCells]; omega
  · have := heap_alloc_new (W.alloc (.cells (madeCells #[.pointer none] n) 30)) (.cells #[.slice none 0 0] 29)
    have s1 : (W.alloc (.cells (madeCells #[.pointer none] n) 30)).heap.size = W.heap.size + 1 := by simp
    rw [s1] at this
    exact this
theorem r2_some (W : World) (d : Dat) (n : Nat) (hn : n ≤ 4096) : R2 d W n false 0 (fun _ => 0) (sv0 false (W.heap.size + 2)) (((W.alloc (.cells (madeCells #[.pointer none] n) 30)).alloc (.cells #[.slice (some ⟨W.heap.size + 1 + 1, 0, none⟩) 0 0] 29)).alloc (.cells #[] 30)) := by
  have s1 : (W.alloc (.cells (madeCells #[.pointer none] n) 30)).heap.size = W.heap.size + 1 := by simp
  have s2 : ((W.alloc (.cells (madeCells #[.pointer none] n) 30)).alloc (.cells #[.slice (some ⟨W.heap.size + 1 + 1, 0, none⟩) 0 0] 29)).heap.size = W.heap.size + 2 := by simp
  have h2 := heap_alloc_new ((W.alloc (.cells (madeCells #[.pointer none] n) 30)).alloc (.cells #[.slice (some ⟨W.heap.size + 1 + 1, 0, none⟩) 0 0] 29)) (.cells #[] 30)
  have h1 := heap_alloc_new (W.alloc (.cells (madeCells #[.pointer none] n) 30)) (.cells #[.slice (some ⟨W.heap.size + 1 + 1, 0, none⟩) 0 0] 29)
  rw [s2] at h2
  rw [s1] at h1
  refine ⟨(((Below.refl _ _).alloc (Nat.le_refl _) _).alloc (by simp) _).alloc (by simp; omega) _, by simp, ⟨rfl, .inr ⟨W.heap.size, n, madeCells #[.pointer none] n, rfl, Nat.le_refl _, ?_, by omega, by simp only [maxLen]; omega, ?_, by simp [ptrs]⟩⟩, ?_, ⟨rfl, .inr ⟨W.heap.size + 2, 0, #[], rfl, Nat.le_refl _, h2, Nat.le_refl _, by simp [maxLen], rfl, rfl⟩⟩, fun _ => rfl, fun i hi => by omega, fun i j _ hj => by omega, fun i hi => by omega⟩
  · rw [Below.heap_alloc _ _ _ (by rw [s2]; omega), Below.heap_alloc _ _ _ (by rw [s1]; omega)]; exact heap_alloc_new W _
  · rw [size_madeCells]; omega
  · rw [Below.heap_alloc _ _ _ (by rw [s2]; omega)]; exact h1

set_option maxHeartbeats 2000000 in
set_option maxRecDepth 100000 in
theorem b9 (w0 W : World) (d : Dat) (p0 : Option Addr) (n c0 tot : Nat) (nl : Bool) (hn : n ≤ 4096) (hN : tot ≤ 65536 → ∀ i, i < n → d.Nn i ≤ 65536) (hM : ∀ i, i < n → d.Mn i ≤ 9223372036854775807) (hSz : ∀ i j, (d.S i j).size ≤ maxLen) (h0 : SeesE W p0 n d)
    (hb : Below w0.heap.size w0 W)
    (u2 u3 u4 u6 u7 u8 u9 u10 u11 u12 u13 u14 u15 u16 u17 u18 u19 u20 u21 u22 u23 u24 u25 u26 u27 u28 u29 u30 u31 u32 u33 u34 u35 u36 u37 u38 u39 u40 u41 u42 u43 u44 u45 u46 u47 u48 u49 u50 u51 u52 u53 u54 u55 u56 u57 u58 u59 u60 u61 u62 u63 u64 u65 u66 u67 u68 u69 u70 u71 u72 u73 u74 u75 u76 u77 u78 u79 u80 u81 u82 u83 u84 u85 u86 u87 u88 u89 u90 u91 u92 u93 u94 u95 u96 u97 u98 u99 u100 u101 u102 u103 u104 u105 u106 u107 u108 u109 u110 u111 u112 u113 u114 u115 u116 u117 u118 u119 u120 u121 u122 u123 u124 u125 u126 u127 u128 u129 u130 u131 u132 u133 u134 u135 u136 u137 u138 u139 u140 u141 u142 u143 u144 u145 u146 u147 u148 u149 u150 u151 u152 u153 u154 u155 u156 u157 u158 u159 u160 u161 u162 u163 u164 u165 u166 u167 u168 u169 u170 u171 u172 u173 u174 u175 u176 u177 u178 u179 u180 u181 u182 u183 u184 u185 u186 u187 u188 u189 u190 u191 u192 u193 u194 u195 u196 u197 u198 u199 u200 u201 u202 u203 u204 u205 u206 u207 u208 u209 u210 u211 u212 u213 u214 u215 u216 u217 u218 u219 u220 u221 u222 u223 u224 u225 u226 u227 u228 u229 u230 u231 u232 u233 u234 u235 u236 u237 u238 u239 u240 u241 u242 u243 u244 u245 u246 u247 u248 u249 u250 u251 u252 u253 u254 u255 u256 u257 u258 u259 u260 u261 u262 u263 u264 u265 u266 u267 u268 u269 u270 u271 u272 u273 u274 u275 u276 u277 u278 u279 u280 u281 u282 u283 u284 u285 u286 u287 u288 u289 u290 u291 u292 u293 u294 u295 u296 u297 u298 u299 u300 u301 u302 u303 u304 u305 u306 u307 u308 u309 u310 u311 u312 u313 u314 u315 u316 u317 : Value) :
    Code.wp Yba.prog (chain 9 (Yba.f3.body.getD .skip)) (bodyPost Yba.prog Yba.f3 fun e w' => e = .returned (.bool true) ∧ Below w0.heap.size w0 w')
      ⟨#[.slice p0 n c0, .bool nl, u2, u3, u4, .int .i64 (tot : Int), u6, u7, u8, u9, u10, u11, u12, u13, u14, u15, u16, u17, u18, u19, u20, u21, u22, u23, u24, u25, u26, u27, u28, u29, u30, u31, u32, u33, u34, u35, u36, u37, u38, u39, u40, u41, u42, u43, u44, u45, u46, u47, u48, u49, u50, u51, u52, u53, u54, u55, u56, u57, u58, u59, u60, u61, u62, u63, u64, u65, u66, u67, u68, u69, u70, u71, u72, u73, u74, u75, u76, u77, u78, u79, u80, u81, u82, u83, u84, u85, u86, u87, u88, u89, u90, u91, u92, u93, u94, u95, u96, u97, u98, u99, u100, u101, u102, u103, u104, u105, u106, u107, u108, u109, u110, u111, u112, u113, u114, u115, u116, u117, u118, u119, u120, u121, u122, u123, u124, u125, u126, u127, u128, u129, u130, u131, u132, u133, u134, u135, u136, u137, u138, u139, u140, u141, u142, u143, u144, u145, u146, u147, u148, u149, u150, u151, u152, u153, u154, u155, u156, u157, u158, u159, u160, u161, u162, u163, u164, u165, u166, u167, u168, u169, u170, u171, u172, u173, u174, u175, u176, u177, u178, u179, u180, u181, u182, u183, u184, u185, u186, u187, u188, u189, u190, u191, u192, u193, u194, u195, u196, u197, u198, u199, u200, u201, u202, u203, u204, u205, u206, u207, u208, u209, u210, u211, u212, u213, u214, u215, u216, u217, u218, u219, u220, u221, u222, u223, u224, u225, u226, u227, u228, u229, u230, u231, u232, u233, u234, u235, u236, u237, u238, u239, u240, u241, u242, u243, u244, u245, u246, u247, u248, u249, u250, u251, u252, u253, u254, u255, u256, u257, u258, u259, u260, u261, u262, u263, u264, u265, u266, u267, u268, u269, u270, u271, u272, u273, u274, u275, u276, u277, u278, u279, u280, u281, u282, u283, u284, u285, u286, u287, u288, u289, u290, u291, u292, u293, u294, u295, u296, u297, u298, u299, u300, u301, u302, u303, u304, u305, u306, u307, u308, u309, u310, u311, u312, u313, u314, u315, u316, u317], []⟩ W := by
  conv => arg 2; whnf
  have HM := show Hid (∀ i, i < n → d.Mn i ≤ 9223372036854775807) from hM
  have HSz := show Hid (∀ i j, (d.S i j).size ≤ maxLen) from hSz
  have H0 := show Hid _ from h0
  clear hM hSz h0
  by_cases ht : tot ≤ 65536
  · have HN := show Hid (∀ i, i < n → d.Nn i ≤ 65536) from hN ht
    have hmk := mk27 n hn
    have hn' : (n : Int) ≤ 4096 := by omega
    clear hN
    cases nl
    · go_upto_region 13 with (fail)
      rename_i K3 hK3 K4 hK4
      have HK3 := show Hid _ from hK3
      clear hK3
      go_wp2_with fail
      refine HK3.out _ _ ?_
      apply b15 w0 W _ d p0 n c0 false hn HN.out HM.out HSz.out H0.out hb (r2_some W d n hn)
    · go_upto_region 13 with (fail)
      rename_i K3 hK3 K4 hK4
      have HK3 := show Hid _ from hK3
      clear hK3
      go_wp2_with fail
      refine HK3.out _ _ ?_
      apply b15 w0 W _ d p0 n c0 true hn HN.out HM.out HSz.out H0.out hb (r2_nil W d n hn)
  · have hN' := hN
    clear hN hN'
    go_wp2
    go_ret
    exact ⟨rfl, hb⟩

set_option maxHeartbeats 2000000 in
set_option maxRecDepth 100000 in
theorem b1 (w0 : World) (d : Dat) (p0 : Option Addr) (n c0 : Nat) (nl : Bool) (hN : ∀ i, i < n → d.Nn i ≤ 8796093022208) (hM : ∀ i, i < n → d.Mn i ≤ 9223372036854775807) (hSz : ∀ i j, (d.S i j).size ≤ maxLen) (hnn : n ≤ 9223372036854775807) (h0 : SeesE w0 p0 n d) :
   Calls Yba.prog 3 #[.slice p0 n c0, .bool nl] w0 fun e w' => e = .returned (.bool true) ∧ Below w0.heap.size w0 w' := by
  go_enter Yba.func3, Yba.ntmps3
  by_cases hn : n ≤ 4096
  · have HM := show Hid (∀ i, i < n → d.Mn i ≤ 9223372036854775807) from hM
    have HSz := show Hid (∀ i j, (d.S i j).size ≤ maxLen) from hSz
    have hNs := sumN_le d.Nn n hN
    have HNs := show Hid _ from hNs
    have HN := show Hid (∀ i, i < n → d.Nn i ≤ 8796093022208) from hN
    clear hM hSz hN hNs
    go_wp2_with fail
    go_loopg [5, 28] n (fun gh s5 s28 wx => ∃ k : Nat, k ≤ n ∧ n - k ≤ gh ∧ s5 = .int .i64 (sumN d.Nn k : Nat) ∧ s28 = .int .i64 k ∧ Below w0.heap.size w0 wx)
    case atStart => exact ⟨0, Nat.zero_le _, by omega, rfl, rfl, Below.refl _ _⟩
    case round =>
      rename_i Kx hKx J1 J2 J3 J4
      have HK := show Hid _ from hKx
      clear hKx
      obtain ⟨wo, rfl⟩ : ∃ wo : World, wo = wr := ⟨_, rfl⟩
      obtain ⟨k, hk, hgh, rfl, rfl, hbx⟩ := hrel
      by_cases hlt : k < n
      · rcases h0 with h0 | ⟨bb, ob, rfl, h0⟩
        · omega
        have g1 := cell_later hbx (h0 k hlt).1
        have hs := HNs.out k hk
        have hNk := HN.out k hlt
        have hs2 : sumN d.Nn (k + 1) = sumN d.Nn k + d.Nn k := rfl
        have HS2 := show Hid _ from hs2
        clear h0 hs2
        generalize sumN d.Nn k = tt at *
        have hs' : (tt : Int) ≤ 36028797018963968 := by omega
        have hnk' : (d.Nn k : Int) ≤ 8796093022208 := by omega
        go_wp2_with fail
        go_roundg (n - (k + 1))
        case measure => omega
        case rel => exact ⟨k + 1, by omega, by omega, by rw [HS2.out]; go_num, by go_num, hbx⟩
      · obtain rfl : n = k := by omega
        go_wp2_with fail
        refine HK.out _ _ ?_
        apply b9 w0 wo d p0 n c0 (sumN d.Nn n) nl hn (fun h i hi => Nat.le_trans (le_sumN d.Nn n i hi) h) HM.out HSz.out (SeesE.later h0 hbx) hbx
  · have hn' : (4096 : Int) < (n : Int) := by omega
    clear h0 hN hM hSz
    go_wp2
    go_ret
    exact ⟨rfl, Below.refl _ _⟩
end Go.Proofs.Ybulkexnoc
