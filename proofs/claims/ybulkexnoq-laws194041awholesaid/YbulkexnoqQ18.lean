import Derived.Test.YbulkexnoqQ27
import Derived.ChangeKeysEq
namespace Go.Proofs.Ybulkexnoq
open Go.RowKit
set_option linter.unusedVariables false
set_option linter.unusedSimpArgs false

theorem Yba.info26 : (Yba.prog.info? 26).map (fun i => (i.zero, i.size, i.bytes)) = some (some (.agg #[.int .i64 0, .int .u64 0]), 2, 16) := by kernel_rfl
theorem Yba.neq28 (a b c d : Int) (V : World) : (binOp .neq 28 (.agg #[.int .i64 a, .int .u64 b, .int .i64 c, .int .u64 d]) (.agg #[.int .i64 a, .int .u64 b, .int .i64 c, .int .u64 d])).run Yba.prog V = .ok (.bool false) V := by
  obtain ⟨i0, hi, hz0, hz1, hz2⟩ := info_parts Yba.info26
  have hS2 : Yba.prog.underlying 26 = some (.struct (Yba.prog.fieldsOf 26)) := by kernel_rfl
  have hp2 : Yba.prog.stoodInHeld 26 = false := by kernel_rfl
  have z2 : Yba.prog.cellsOf 2 = 1 := by kernel_rfl
  have z24 : Yba.prog.cellsOf 24 = 1 := by kernel_rfl
  have z26 : Yba.prog.cellsOf 26 = 2 := by kernel_rfl
  have hin : ∀ (h l : Int) (V : World), (Op.equalIn 9999 26 (.agg #[.int .i64 h, .int .u64 l]) (.agg #[.int .i64 h, .int .u64 l])).run Yba.prog V = .ok true V := fun h l V => by
    rw [show (9999 : Nat) = 9998 + 1 from rfl, run_equalIn_agg V 9998 26 _ _ hS2 hp2]
    simp only [Program.fieldsOf, Yba.underlying26]
    go_simp
  rw [run_neq_struct, show (10000 : Nat) = 9999 + 1 from rfl, run_equalIn_array V 9999 _ _ Yba.underlying28 hi, z26]
  have hag : (isAgg 26).run Yba.prog V = .ok true V := by kernel_rfl
  have hsz : (sizeOf 26).run Yba.prog V = .ok 2 V := by kernel_rfl
  simp [Op.eqItems, List.range, List.range.loop, part, hag, hsz, hin]

set_option maxRecDepth 100000 in
set_option maxHeartbeats 1000000 in
theorem t21 (w0 W : World) (M K n kc : Nat) (x : Nat → Ent) (np : Option Addr) (a b c d : Int) (hn : n ≤ 1048576) (hM : W.heap[M]? = some (.cells #[.int .i64 a, .int .u64 b, .int .i64 c, .int .u64 d] 28 (0, 0))) (hk : At3 W K 0 n x)
    (hpos : ∀ V, Below W.heap.size W V → Calls Yba.prog 7 #[vec a b c d np] V fun e w' => Below V.heap.size V w' ∧ ∃ gp, e = .returned (vec a b c d gp) ∧ Got w0 K n x np gp w')
    (hsame : ∀ V, Below W.heap.size W V → Calls Yba.prog 8 #[.pointer np, .slice (some ⟨K, 0, none⟩) n kc] V fun e w' => e = .returned (.bool true) ∧ ∃ q, w' = V.drewN q)
    (hb : Below w0.heap.size w0 W)
    (u0 u1 u2 u3 u4 u6 u7 u9 u10 u12 u13 u14 u15 u16 u17 u18 u19 u20 u21 u22 u23 u24 u25 u26 u27 u28 u29 u30 u31 u32 u33 u34 u35 u36 u37 u38 u39 u40 u41 u42 u43 u44 u45 u46 u47 u48 u49 u50 u51 u52 u53 u54 u55 u56 u57 u58 u59 u60 u61 u62 u63 u64 u65 u66 u67 u68 u69 u70 u71 u72 u73 u74 u75 u76 u77 u78 u79 u80 u81 u82 u83 u84 u85 u86 u87 u88 u89 u90 u91 u92 u93 u94 u95 u96 u97 u98 u99 u100 u101 u102 u103 u104 u105 u106 u107 u108 u109 u110 u111 u112 u113 u114 u115 u116 u117 u118 u119 u120 u121 u122 u123 u124 u125 u126 u127 u128 u129 u130 u131 u132 u133 u134 u135 u136 u137 u138 u139 u140 u141 u142 u143 u144 u145 u146 u147 u148 u149 u150 u151 u152 u153 u154 u155 u156 u157 u158 u159 u160 u161 u162 u163 u164 u165 u166 u167 u168 u169 u170 u171 u172 u173 u174 u175 u176 u177 u178 u179 u180 u181 : Value) :
    Code.wp Yba.prog (chain 21 (Yba.f3.body.getD .skip)) (bodyPost Yba.prog Yba.f3 fun e w' => e = .returned (.bool true) ∧ Below w0.heap.size w0 w')
      ⟨#[u0, u1, u2, u3, u4, .pointer (some ⟨M, 0, none⟩), u6, u7, .slice (some ⟨K, 0, none⟩) n kc, u9, u10, .pointer np, u12, u13, u14, u15, u16, u17, u18, u19, u20, u21, u22, u23, u24, u25, u26, u27, u28, u29, u30, u31, u32, u33, u34, u35, u36, u37, u38, u39, u40, u41, u42, u43, u44, u45, u46, u47, u48, u49, u50, u51, u52, u53, u54, u55, u56, u57, u58, u59, u60, u61, u62, u63, u64, u65, u66, u67, u68, u69, u70, u71, u72, u73, u74, u75, u76, u77, u78, u79, u80, u81, u82, u83, u84, u85, u86, u87, u88, u89, u90, u91, u92, u93, u94, u95, u96, u97, u98, u99, u100, u101, u102, u103, u104, u105, u106, u107, u108, u109, u110, u111, u112, u113, u114, u115, u116, u117, u118, u119, u120, u121, u122, u123, u124, u125, u126, u127, u128, u129, u130, u131, u132, u133, u134, u135, u136, u137, u138, u139, u140, u141, u142, u143, u144, u145, u146, u147, u148, u149, u150, u151, u152, u153, u154, u155, u156, u157, u158, u159, u160, u161, u162, u163, u164, u165, u166, u167, u168, u169, u170, u171, u172, u173, u174, u175, u176, u177, u178, u179, u180, u181], []⟩ W := by
  conv => arg 2; whnf
  have m0 := cell_of (i := 0) hM rfl
  have m1 := cell_of (i := 1) hM rfl
  have m2 := cell_of (i := 2) hM rfl
  have m3 := cell_of (i := 3) hM rfl
  have hMlt := lt_of_block' hM
  have n28 := Yba.neq28 a b c d
  have HP := show Hid _ from hpos
  have HS := show Hid _ from hsame
  have HKE := show Hid _ from hk
  have HM := show Hid _ from hM
  clear hpos hsame hk hM
  go_wp2_with fail
  have hb1 := (Below.refl W.heap.size W).alloc (Nat.le_refl _) (.cells #[.int .i64 a, .int .u64 b, .int .i64 c, .int .u64 d, .pointer np] 41)
  refine Calls.mono (HP.out _ hb1) ?_
  rintro e w2 ⟨hb2, gp, rfl, hgot⟩
  have hb3 : Below W.heap.size W w2 := hb1.trans (hb2.mono hb1.size)
  have HB3 := show Hid _ from hb3
  have HGT := show Hid _ from hgot
  have m0' := cell_later hb3 m0
  have m1' := cell_later hb3 m1
  have m2' := cell_later hb3 m2
  have m3' := cell_later hb3 m3
  have hlt2 : M < w2.heap.size := by have := hb3.size; omega
  have mm0 := fun ob => (World.cell?_alloc_lt w2 ob ⟨M, 0, none⟩ hlt2).trans m0'
  have mm1 := fun ob => (World.cell?_alloc_lt w2 ob ⟨M, 1, none⟩ hlt2).trans m1'
  have mm2 := fun ob => (World.cell?_alloc_lt w2 ob ⟨M, 2, none⟩ hlt2).trans m2'
  have mm3 := fun ob => (World.cell?_alloc_lt w2 ob ⟨M, 3, none⟩ hlt2).trans m3'
  clear hb1 hb2 hb3 hgot m0 m1 m2 m3
  unfold vec
  dsimp only
  go_upto_region 25 with (fail)
  rename_i K3 hK3 K4 hK4
  have HK3 := show Hid _ from hK3
  clear hK3
  go_wp2_with fail
  have hb4 : Below W.heap.size W (w2.alloc (.cells #[.int .i64 a, .int .u64 b, .int .i64 c, .int .u64 d, .pointer gp] 41)) := HB3.out.alloc HB3.out.size _
  refine Calls.mono (HS.out _ hb4) ?_
  rintro e w4 ⟨rfl, q, rfl⟩
  dsimp only
  go_wp2_with fail
  refine HK3.out _ _ ?_
  apply t27 w0 ((w2.alloc (.cells #[.int .i64 a, .int .u64 b, .int .i64 c, .int .u64 d, .pointer gp] 41)).drewN q) w2.heap.size K n kc x np gp hn (by simp) ?_ ?_ (below_drewN (hb.trans (hb4.mono hb.size)) _)
  · exact At3.later (b := K) (o := 0) (n := n) (x := x) HKE.out (below_drewN hb4 _)
  · exact Got.later HGT.out (below_drewN ((Below.refl _ _).alloc (Nat.le_refl _) _) _)

theorem positive_nil' (a b c d : Int) (w : World) : Calls Yba.prog 7 #[vec a b c d none] w fun e w' => e = .returned (vec a b c d none) ∧ Below w.heap.size w w' := by
  refine positive_same a b c d none (.slice none 0 0) w (fun V _ => list_nil _ _ _ _ V) (fun V _ => ?_)
  refine (contains_any none 0 0 (fun _ => (ByteArray.empty, 0, 0)) V (by omega) (.inl rfl) (fun _ => by simp)).mono fun e w' ⟨h1, h2⟩ => ?_
  rcases h2 with ⟨_, rfl⟩ | ⟨⟨k, hk, _⟩, _⟩
  · exact ⟨rfl, h1⟩
  · omega

theorem got_all {w0 w1 : World} {L K n c0 NP : Nat} {x : Nat → Ent} {a b c d : Int} (hn0 : 0 < n) (hn : n ≤ 1048576) (hNP : w1.heap[NP]? = some (.cells #[.slice (some ⟨L, 0, none⟩) n c0] 39 (0, 0))) (hx : At3 w1 L 0 n x) (hk : At3 w1 K 0 n x) (hl : ∀ i, 0 ≤ (x i).2.2) (h0 : w0.heap.size ≤ w1.heap.size) (V : World) (hV : Below w1.heap.size w1 V) :
    Calls Yba.prog 7 #[vec a b c d (some ⟨NP, 0, none⟩)] V fun e w' => Below V.heap.size V w' ∧ ∃ gp, e = .returned (vec a b c d gp) ∧ Got w0 K n x (some ⟨NP, 0, none⟩) gp w' := by
  have hNPv : V.heap[NP]? = some (.cells #[.slice (some ⟨L, 0, none⟩) n c0] 39 (0, 0)) := by rw [hV.block _ (lt_of_block' hNP)]; exact hNP
  have hxv := hx.later hV
  have hkv := hk.later hV
  by_cases hall : ∀ i, i < n → pos (x i) = true
  · refine (positive_same a b c d (some ⟨NP, 0, none⟩) (.slice (some ⟨L, 0, none⟩) n c0) V (fun V' hV' => list_some _ _ _ _ NP _ V' (cell_later hV' (cell_of hNPv rfl))) (fun V' hV' => ?_)).mono fun e w' ⟨h1, h2⟩ => ⟨h2, _, h1, .inl ⟨hall, rfl⟩⟩
    refine (contains_any (some ⟨L, 0, none⟩) n c0 x V' hn (.inr ⟨L, 0, rfl, hxv.later hV'⟩) hl).mono fun e w' ⟨h1, h2⟩ => ?_
    rcases h2 with ⟨_, rfl⟩ | ⟨⟨k, hk, hp⟩, _⟩
    · exact ⟨rfl, h1⟩
    · rw [hall k hk] at hp
      cases hp
  · have hsome : ∃ k, k < n ∧ pos (x k) = false := by
      apply Classical.byContradiction
      intro h
      refine hall fun i hi => ?_
      cases hp : pos (x i)
      · exact absurd ⟨i, hi, hp⟩ h
      · rfl
    have l1 := lt_of_block' hNPv
    have l2 := hxv.lt hn0
    have l3 := hkv.lt hn0
    have l4 := hV.size
    refine (positive_some a b c d NP L n c0 x V hn0 hn (cell_of hNPv rfl) hxv hl hsome).mono fun e w' ⟨hb, hF⟩ => ⟨hb, ?_⟩
    rcases hF with ⟨hf, rfl⟩ | ⟨hf, N2, g, cap, m, F, rfl, g1, g2, g3, g4, g5, g6, g7⟩
    · exact ⟨_, rfl, .inr (.inl ⟨hsome, hf, rfl⟩)⟩
    · refine ⟨_, rfl, .inr (.inr ⟨hsome, hf, N2, g, cap, m, F, NP, L, c0, rfl, rfl, ⟨by rw [hb.block _ l1]; exact hNPv, hxv.later hb, hkv.later hb⟩, by omega, by omega, by omega, by omega, g4, g5, g6, g7, by omega⟩)⟩

set_option maxRecDepth 100000 in
set_option maxHeartbeats 1000000 in
theorem t18 (w0 W : World) (M L K n lc kc : Nat) (x : Nat → Ent) (a b c d : Int) (hn : n ≤ 1048576) (hM : W.heap[M]? = some (.cells #[.int .i64 a, .int .u64 b, .int .i64 c, .int .u64 d] 28 (0, 0))) (hx : At3 W L 0 n x) (hk : At3 W K 0 n x) (hl : ∀ i, 0 ≤ (x i).2.2)
    (hb : Below w0.heap.size w0 W)
    (u0 u1 u2 u3 u4 u6 u9 u10 u11 u12 u13 u14 u15 u16 u17 u18 u19 u20 u21 u22 u23 u24 u25 u26 u27 u28 u29 u30 u31 u32 u33 u34 u35 u36 u37 u38 u39 u40 u41 u42 u43 u44 u45 u46 u47 u48 u49 u50 u51 u52 u53 u54 u55 u56 u57 u58 u59 u60 u61 u62 u63 u64 u65 u66 u67 u68 u69 u70 u71 u72 u73 u74 u75 u76 u77 u78 u79 u80 u81 u82 u83 u84 u85 u86 u87 u88 u89 u90 u91 u92 u93 u94 u95 u96 u97 u98 u99 u100 u101 u102 u103 u104 u105 u106 u107 u108 u109 u110 u111 u112 u113 u114 u115 u116 u117 u118 u119 u120 u121 u122 u123 u124 u125 u126 u127 u128 u129 u130 u131 u132 u133 u134 u135 u136 u137 u138 u139 u140 u141 u142 u143 u144 u145 u146 u147 u148 u149 u150 u151 u152 u153 u154 u155 u156 u157 u158 u159 u160 u161 u162 u163 u164 u165 u166 u167 u168 u169 u170 u171 u172 u173 u174 u175 u176 u177 u178 u179 u180 u181 : Value) :
    Code.wp Yba.prog (chain 18 (Yba.f3.body.getD .skip)) (bodyPost Yba.prog Yba.f3 fun e w' => e = .returned (.bool true) ∧ Below w0.heap.size w0 w')
      ⟨#[u0, u1, u2, u3, u4, .pointer (some ⟨M, 0, none⟩), u6, .slice (some ⟨L, 0, none⟩) n lc, .slice (some ⟨K, 0, none⟩) n kc, u9, u10, u11, u12, u13, u14, u15, u16, u17, u18, u19, u20, u21, u22, u23, u24, u25, u26, u27, u28, u29, u30, u31, u32, u33, u34, u35, u36, u37, u38, u39, u40, u41, u42, u43, u44, u45, u46, u47, u48, u49, u50, u51, u52, u53, u54, u55, u56, u57, u58, u59, u60, u61, u62, u63, u64, u65, u66, u67, u68, u69, u70, u71, u72, u73, u74, u75, u76, u77, u78, u79, u80, u81, u82, u83, u84, u85, u86, u87, u88, u89, u90, u91, u92, u93, u94, u95, u96, u97, u98, u99, u100, u101, u102, u103, u104, u105, u106, u107, u108, u109, u110, u111, u112, u113, u114, u115, u116, u117, u118, u119, u120, u121, u122, u123, u124, u125, u126, u127, u128, u129, u130, u131, u132, u133, u134, u135, u136, u137, u138, u139, u140, u141, u142, u143, u144, u145, u146, u147, u148, u149, u150, u151, u152, u153, u154, u155, u156, u157, u158, u159, u160, u161, u162, u163, u164, u165, u166, u167, u168, u169, u170, u171, u172, u173, u174, u175, u176, u177, u178, u179, u180, u181], []⟩ W := by
  conv => arg 2; whnf
  have H := show Hid _ from And.intro hM (And.intro hx (And.intro hk hl))
  clear hM hx hk hl
  by_cases h0 : n = 0
  · subst h0
    go_upto_region 19 with (fail)
    rename_i K3 hK3 K4 hK4
    have HK3 := show Hid _ from hK3
    clear hK3
    go_wp2_with fail
    refine HK3.out _ _ ?_
    obtain ⟨hM, hx, hk, hl⟩ := H.out
    apply t21 w0 W M K 0 kc x none a b c d (by omega) hM hk ?_ ?_ hb
    · intro V hV
      exact (positive_nil' a b c d V).mono fun e w' ⟨h1, h2⟩ => ⟨h2, _, h1, .inl ⟨fun i hi => by omega, rfl⟩⟩
    · intro V hV
      exact (same_nil (some ⟨K, 0, none⟩) kc V).mono fun e w' ⟨h1, h2⟩ => ⟨h1, 0, h2⟩
  · have hpn : decide ((0 : Int) < (n : Int)) = true := decide_eq_true (by omega)
    have hn0 : 0 < n := by omega
    clear h0
    go_upto_region 19 with (fail)
    rename_i K3 hK3 K4 hK4
    have HK3 := show Hid _ from hK3
    clear hK3
    go_wp2_with fail
    refine HK3.out _ _ ?_
    obtain ⟨hM, hx, hk, hl⟩ := H.out
    have hal := (Below.refl W.heap.size W).alloc (Nat.le_refl _) (.cells #[.slice (some ⟨L, 0, none⟩) n lc] 39)
    have hNP : (W.alloc (.cells #[.slice (some ⟨L, 0, none⟩) n lc] 39)).heap[W.heap.size]? = some (.cells #[.slice (some ⟨L, 0, none⟩) n lc] 39 (0, 0)) := heap_alloc_new W _
    have hxw := At3.later (b := L) (o := 0) (n := n) (x := x) hx hal
    have hkw := At3.later (b := K) (o := 0) (n := n) (x := x) hk hal
    apply t21 w0 (W.alloc (.cells #[.slice (some ⟨L, 0, none⟩) n lc] 39)) M K n kc x (some ⟨W.heap.size, 0, none⟩) a b c d hn (by rw [hal.block _ (lt_of_block' hM)]; exact hM) hkw (got_all hn0 hn hNP hxw hkw hl (Nat.le_trans hb.size hal.size)) ?_ (hb.trans (hal.mono hb.size))
    intro V hV
    exact same_any W.heap.size L K n lc kc x V hn (cell_later hV (cell_of hNP rfl)) (hxw.later hV) (hkw.later hV)
end Go.Proofs.Ybulkexnoq
