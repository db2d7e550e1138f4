import Derived.Test.YbulkexnoqRU13
namespace Go.Proofs.Ybulkexnoq
open Go.RowKit
set_option linter.unusedVariables false
set_option linter.unusedSimpArgs false

def pre (x : Nat → Ent) (k : Nat) : List Ent := (List.range k).map x
theorem pre_succ (x : Nat → Ent) (k : Nat) : pre x (k + 1) = pre x k ++ [x k] := by simp [pre, List.range_succ]
theorem pre_len (x : Nat → Ent) (k : Nat) : (pre x k).length = k := by simp [pre]

set_option maxRecDepth 100000 in
set_option maxHeartbeats 1000000 in
theorem u6 (w0 W : World) (p0 : Option Addr) (n c0 : Nat) (nl : Bool) (q : ByteArray) (x : Nat → Ent) (hn : n ≤ 1048576) (hx : See3 W p0 n x) (hb : Below w0.heap.size w0 W)
    (u1 u2 u4 u5 u6 u7 u8 u10 u11 u12 u13 u14 u15 u16 u17 u18 u19 u20 u21 u22 u23 u24 u25 u26 u27 u28 u29 u30 u31 u32 u33 u34 u35 u36 u37 u38 u39 u40 u41 u42 u43 u44 u45 u46 u47 u48 u49 u50 u51 u52 u53 u54 u55 u56 u57 u58 u59 u60 u61 u62 u63 u64 u65 u66 u67 u68 u69 u70 u71 u72 u73 u74 u75 u76 u77 u78 u79 u80 u81 u82 u83 u84 u85 u86 u87 u88 u89 u90 u91 u92 u93 u94 u95 u96 u97 u98 u99 u100 u101 u102 u103 u104 u105 u106 u107 u108 u109 u110 u111 u112 u113 u114 u115 u116 u117 u118 u119 u120 u121 u122 u123 u124 u125 u126 u127 u128 u129 u130 u131 u132 u133 u134 u135 u136 u137 u138 u139 u140 u141 u142 u143 u144 u145 u146 u147 u148 u149 u150 u151 u152 u153 u154 : Value) :
    Code.wp Yba.prog (chain2 6 (Yba.f4.body.getD .skip)) (bodyPost Yba.prog Yba.f4 fun e w' => e = .returned (.bool true) ∧ Below w0.heap.size w0 w')
      ⟨#[.slice p0 n c0, u1, u2, .bool nl, u4, u5, u6, u7, u8, .string q, u10, u11, u12, u13, u14, u15, u16, u17, u18, u19, u20, u21, u22, u23, u24, u25, u26, u27, u28, u29, u30, u31, u32, u33, u34, u35, u36, u37, u38, u39, u40, u41, u42, u43, u44, u45, u46, u47, u48, u49, u50, u51, u52, u53, u54, u55, u56, u57, u58, u59, u60, u61, u62, u63, u64, u65, u66, u67, u68, u69, u70, u71, u72, u73, u74, u75, u76, u77, u78, u79, u80, u81, u82, u83, u84, u85, u86, u87, u88, u89, u90, u91, u92, u93, u94, u95, u96, u97, u98, u99, u100, u101, u102, u103, u104, u105, u106, u107, u108, u109, u110, u111, u112, u113, u114, u115, u116, u117, u118, u119, u120, u121, u122, u123, u124, u125, u126, u127, u128, u129, u130, u131, u132, u133, u134, u135, u136, u137, u138, u139, u140, u141, u142, u143, u144, u145, u146, u147, u148, u149, u150, u151, u152, u153, u154], []⟩ W := by
  conv => arg 2; whnf
  obtain ⟨i0, hi, hz0, hz1, hz2⟩ := info_parts Yba.info36
  have mk := make0 n hn
  have H := show Hid _ from And.intro hx hn
  have HS := show Hid _ from OwnN.start W n hn
  clear hx hn
  go_wp2_with fail
  go_loopg [10, 50] n (fun gh s10 s50 wr => ∃ k : Nat, k ≤ n ∧ n - k ≤ gh ∧ s50 = .int .i64 k ∧ Below W.heap.size W wr ∧ Hid (OwnN wr W.heap.size s10 (pre x k)))
  case atStart => exact ⟨0, Nat.zero_le _, by omega, rfl, (Below.refl _ _).alloc (Nat.le_refl _) _, HS⟩
  case round =>
    clear HS mk
    rename_i Kx hKx J1 J2 J3 J4
    have HK := show Hid _ from hKx
    clear hKx
    obtain ⟨k, hk, hg, rfl, hbel, HO⟩ := hrel
    by_cases hlt : k < n
    · rcases H.out.1 with h1 | ⟨b1, o1, rfl, h1⟩
      · omega
      have a0 := cell_later hbel (h1 k hlt).1
      have a1 := cell_later hbel (h1 k hlt).2.1
      have a2 := cell_later hbel (h1 k hlt).2.2
      have hn := H.out.2
      have ek : wrap64 ((k : Int) + 1) = ((k + 1 : Nat) : Int) := wrap_succ (by omega)
      have HEK := show Hid _ from ek
      have hpl := pre_len x k
      have HU := show Hid _ from And.intro hg (And.intro hk (And.intro hn hpl))
      clear ek h1 hn hg hk hpl
      go_wp2_with (at_builtin; refine wpList_append_own _ rfl _ _ 32 rfl W.heap.size 36 i0 (.agg #[.string ⟨#[]⟩, .int .i64 0, .int .u64 0]) 3 32 Yba.underlying32 hi hz0 hz1 hz2 rfl (by decide) u10 (pre x k).length (lcells2 (pre x k)) rfl ?qown ⟨wr.heap.size + 1, 0, none⟩ 1 1 [.string (x k).1, .int .i64 (x k).2.1, .int .u64 (x k).2.2] rfl ?qc0 ?qc1 ?qc2 ?qc3 ?qc4 ?qc5 ?_)
      case qown => exact (OwnN.later HO.out (((Below.refl _ _).alloc (Nat.le_refl _) _).alloc (by simp) _)).1
      case qc0 => rfl
      case qc1 =>
        intro j u hj
        match j, hj with
        | 0, hj => simp at hj; subst hj; simp [Addr.add]
        | 1, hj => simp at hj; subst hj; simp [Addr.add]
        | 2, hj => simp at hj; subst hj; simp [Addr.add]
      case qc2 =>
        intro u hu
        simp at hu
        rcases hu with rfl | rfl | rfl <;> rfl
      case qc3 => have := HU.out; simp only [maxLen]; omega
      case qc4 => have := HU.out; omega
      case qc5 => have := hbel.size; simp; omega
      intro v' w2 hown hgrow hnn
      have hnil : v' ≠ .slice none 0 0 := by simpa using hnn
      have hbel2 : Below W.heap.size W w2 := ((hbel.alloc hbel.size _).alloc (by have := hbel.size; simp; omega) _).grown hgrow (by have := hbel.size; simp; omega) (OwnN.base HO.out)
      have HO2 := show Hid _ from And.intro hown hnil
      clear hown hgrow hnn hnil
      have ek := HEK.out
      go_wp2_with fail
      clear ek
      go_roundg (n - (k + 1))
      case measure => have := HU.out; omega
      case rel => exact ⟨k + 1, hlt, Nat.le_refl _, by first | rfl | (rw [HEK.out]), hbel2, by rw [pre_succ]; exact show Hid _ from ⟨by rw [lcells2_one, List.length_append]; exact HO2.out.1, HO2.out.2⟩⟩
    · obtain rfl : k = n := by omega
      go_wp2_with fail
      refine HK.out _ _ ?_
      obtain ⟨g, cap, rfl, hgb, hR⟩ := OwnN.row HO.out
      rw [pre_len] at hR
      rw [pre_len]
      have HC := show Hid _ from sort_any g (cap * 3) k cap _ wr H.out.2 hR
      unfold fn11 at HC
      clear hR
      go_upto_region 12 with (fail)
      rename_i K3 hK3
      have HK3 := show Hid _ from hK3
      clear hK3
      go_wp2_with fail
      refine Calls.mono HC.out ?_
      rintro e w' ⟨rfl, ho, y, hy, hs⟩
      dsimp only
      go_wp2_with fail
      refine HK3.out _ _ ?_
      apply Go.Proofs.Ybulkexnoq.u13 w0 w' g (cap * 3) k cap nl q y H.out.2 hy hs ((hb.trans (hbel.mono hb.size)).trans (ho.2.mono (Nat.le_trans hb.size hgb)))

theorem rem_idx {pk : Int} {n : Nat} (h : 0 ≤ pk) (hn : 0 < n) : ∃ k : Nat, pk / 2 % (n : Int) = (k : Int) ∧ k < n := by
  have h1 : 0 ≤ pk / 2 % (n : Int) := Int.emod_nonneg _ (by omega)
  have h2 : pk / 2 % (n : Int) < (n : Int) := Int.emod_lt_of_pos _ (by omega)
  exact ⟨(pk / 2 % (n : Int)).toNat, by omega, by omega⟩

set_option maxRecDepth 100000 in
set_option maxHeartbeats 1000000 in
theorem lawB_any (w : World) (p0 : Option Addr) (n c0 : Nat) (name : ByteArray) (pk : Int) (nl : Bool) (x : Nat → Ent) (hx : See3 w p0 n x) (hpk : 0 ≤ pk ∧ pk < 256) :
    Calls Yba.prog 4 #[.slice p0 n c0, .string name, .int .u8 pk, .bool nl] w fun e w' => e = .returned (.bool true) ∧ Below w.heap.size w w' := by
  have HX := show Hid _ from hx
  clear hx
  by_cases h0 : n ≤ 1048576
  · have g0 : decide ((1048576 : Int) < (n : Int)) = false := decide_eq_false (by omega)
    have HN := show Hid _ from h0
    clear h0
    by_cases hn0 : n = 0
    · subst hn0
      go_enter Yba.func4, Yba.ntmps4
      go_upto_region 4 with (fail)
      rename_i K3 hK3 K4 hK4
      have HK3 := show Hid _ from hK3
      clear hK3
      go_wp2_with fail
      all_goals
        refine HK3.out _ _ ?_
        apply u6 w w _ 0 c0 nl _ x (by omega) (.inl rfl) (Below.refl _ _)
    · rcases HX.out with h1 | ⟨b1, o1, rfl, h1⟩
      · omega
      obtain ⟨k, ek, hk⟩ := rem_idx (n := n) hpk.1 (by omega)
      have a0 := (h1 k hk).1
      have hnp : 0 < n := by omega
      clear h1 hn0
      go_enter Yba.func4, Yba.ntmps4
      go_upto_region 4 with (fail)
      rename_i K3 hK3 K4 hK4
      have HK3 := show Hid _ from hK3
      clear hK3
      go_wp2_with fail
      all_goals
        refine HK3.out _ _ ?_
        apply u6 w w _ n c0 nl _ x HN.out HX.out (Below.refl _ _)
  · have g0 : decide ((1048576 : Int) < (n : Int)) = true := decide_eq_true (by omega)
    clear h0
    go_enter Yba.func4, Yba.ntmps4
    go_wp2_with fail
    go_ret
    exact ⟨rfl, Below.refl _ _⟩
end Go.Proofs.Ybulkexnoq
