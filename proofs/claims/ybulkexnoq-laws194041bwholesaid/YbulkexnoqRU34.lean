import Derived.Test.YbulkexnoqREq
import Derived.Test.YbulkexnoqQ35
namespace Go.Proofs.Ybulkexnoq
open Go.RowKit
set_option linter.unusedVariables false
set_option linter.unusedSimpArgs false

theorem Yba.neq26 (a b : Int) (V : World) : (binOp .neq 26 (.agg #[.int .i64 a, .int .u64 b]) (.agg #[.int .i64 a, .int .u64 b])).run Yba.prog V = .ok (.bool false) V := by
  have hS : Yba.prog.underlying 26 = some (.struct (Yba.prog.fieldsOf 26)) := by kernel_rfl
  have hp : Yba.prog.stoodInHeld 26 = false := by kernel_rfl
  rw [run_neq_struct, show (10000 : Nat) = 9999 + 1 from rfl, run_equalIn_agg V 9999 26 _ _ hS hp]
  simp only [Program.fieldsOf, Yba.underlying26]
  have z2 : Yba.prog.cellsOf 2 = 1 := by kernel_rfl
  have z24 : Yba.prog.cellsOf 24 = 1 := by kernel_rfl
  go_simp

theorem lt_of_block'' {w : World} {b : Nat} {x : Obj} (h : w.heap[b]? = some x) : b < w.heap.size := by
  obtain ⟨hlt, _⟩ := Array.getElem?_eq_some_iff.1 h
  exact hlt

set_option maxRecDepth 100000 in
set_option maxHeartbeats 1000000 in
theorem u34t (w0 W : World) (V A : Nat) (q : ByteArray) (hV : W.heap[V]? = some (.cells #[.int .i64 0, .int .u64 0, .int .i64 0, .int .u64 0, .pointer none] 41 (0, 0))) (hA : W.heap[A]? = some (.cells #[.int .i64 0, .int .u64 0] 26 (0, 0))) (hb : Below w0.heap.size w0 W)
    (u0 u1 u2 u4 u5 u6 u7 u8 u10 u11 u12 u13 u14 u16 u19 u20 u21 u22 u23 u24 u25 u26 u27 u28 u29 u30 u31 u32 u33 u34 u35 u36 u37 u38 u39 u40 u41 u42 u43 u44 u45 u46 u47 u48 u49 u50 u51 u52 u53 u54 u55 u56 u57 u58 u59 u60 u61 u62 u63 u64 u65 u66 u67 u68 u69 u70 u71 u72 u73 u74 u75 u76 u77 u78 u79 u80 u81 u82 u83 u84 u85 u86 u87 u88 u89 u90 u91 u92 u93 u94 u95 u96 u97 u98 u99 u100 u101 u102 u103 u104 u105 u106 u107 u108 u109 u110 u111 u112 u113 u114 u115 u116 u117 u118 u119 u120 u121 u122 u123 u124 u125 u126 u127 u128 u129 u130 u131 u132 u133 u134 u135 u136 u137 u138 u139 u140 u141 u142 u143 u144 u145 u146 u147 u148 u149 u150 u151 u152 u153 u154 : Value) :
    Code.wp Yba.prog (chain2 34 (Yba.f4.body.getD .skip)) (bodyPost Yba.prog Yba.f4 fun e w' => e = .returned (.bool true) ∧ Below w0.heap.size w0 w')
      ⟨#[u0, u1, u2, .bool true, u4, u5, u6, u7, u8, .string q, u10, u11, u12, u13, u14, .pointer (some ⟨V, 0, none⟩), u16, .pointer (some ⟨A, 0, none⟩), .bool false, u19, u20, u21, u22, u23, u24, u25, u26, u27, u28, u29, u30, u31, u32, u33, u34, u35, u36, u37, u38, u39, u40, u41, u42, u43, u44, u45, u46, u47, u48, u49, u50, u51, u52, u53, u54, u55, u56, u57, u58, u59, u60, u61, u62, u63, u64, u65, u66, u67, u68, u69, u70, u71, u72, u73, u74, u75, u76, u77, u78, u79, u80, u81, u82, u83, u84, u85, u86, u87, u88, u89, u90, u91, u92, u93, u94, u95, u96, u97, u98, u99, u100, u101, u102, u103, u104, u105, u106, u107, u108, u109, u110, u111, u112, u113, u114, u115, u116, u117, u118, u119, u120, u121, u122, u123, u124, u125, u126, u127, u128, u129, u130, u131, u132, u133, u134, u135, u136, u137, u138, u139, u140, u141, u142, u143, u144, u145, u146, u147, u148, u149, u150, u151, u152, u153, u154], []⟩ W := by
  conv => arg 2; whnf
  have hc := named_any 0 0 0 0 none none 0 0 (fun _ => (ByteArray.empty, 0, 0)) q W (by omega) (.inl ⟨rfl, rfl, rfl, rfl⟩) (.inl rfl)
  have HC := show Hid _ from hc
  unfold vec at HC
  have x0 := cell_of (i := 0) hV rfl
  have x1 := cell_of (i := 1) hV rfl
  have x2 := cell_of (i := 2) hV rfl
  have x3 := cell_of (i := 3) hV rfl
  have x4 := cell_of (i := 4) hV rfl
  have HV := show Hid _ from And.intro hV hA
  have n26 := Yba.neq26 0 0
  have e37 := eql_same none
  clear hc hV hA
  go_wp2_with fail
  refine Calls.mono HC.out ?_
  rintro e w1 ⟨hb1, i, fd, he, hh⟩
  have hfd : fd = false := hit_none hh (fun j hj => by omega)
  subst hfd
  simp only [amt] at he
  subst he
  have hVl := lt_of_block'' HV.out.1
  have hAl := lt_of_block'' HV.out.2
  have v1 : w1.heap[V]? = some (.cells #[.int .i64 0, .int .u64 0, .int .i64 0, .int .u64 0, .pointer none] 41 (0, 0)) := by rw [hb1.block _ hVl]; exact HV.out.1
  have v2 : w1.heap[A]? = some (.cells #[.int .i64 0, .int .u64 0] 26 (0, 0)) := by rw [hb1.block _ hAl]; exact HV.out.2
  have l1 := lt_of_block'' v1
  have l2 := lt_of_block'' v2
  have m4 := fun ob => (World.cell?_alloc_lt w1 ob ⟨V, 4, none⟩ l1).trans (cell_of (i := 4) v1 rfl)
  have m0 := fun ob => (World.cell?_alloc_lt w1 ob ⟨A, 0, none⟩ l2).trans (cell_of (i := 0) v2 rfl)
  have m1 := fun ob => (World.cell?_alloc_lt w1 ob ⟨A, 1, none⟩ l2).trans (cell_of (i := 1) v2 rfl)
  have HB := show Hid _ from hb1
  clear hh hb1 v1 v2 x0 x1 x2 x3 x4 l1 l2 hVl hAl
  dsimp only
  go_wp2_with fail
  go_ret
  exact ⟨rfl, (hb.trans (HB.out.mono hb.size)).alloc (Nat.le_trans hb.size HB.out.size) _⟩

set_option maxRecDepth 100000 in
set_option maxHeartbeats 1000000 in
theorem u34f (w0 W : World) (V A NP U K n uc kc : Nat) (q : ByteArray) (z : Nat → Ent) (h l : Int) (ok : Bool) (hn : n ≤ 1048576) (hV : W.heap[V]? = some (.cells #[.int .i64 0, .int .u64 0, .int .i64 0, .int .u64 0, .pointer (some ⟨NP, 0, none⟩)] 41 (0, 0)))
    (hA : W.heap[A]? = some (.cells #[.int .i64 h, .int .u64 l] 26 (0, 0))) (hNP : W.heap[NP]? = some (.cells #[.slice (some ⟨U, 0, none⟩) n uc] 39 (0, 0))) (hU : At3 W U 0 n z) (hK : At3 W K 0 n z)
    (hw : ∀ i fd, Hit z n q i fd → amt z i fd = .agg #[.int .i64 h, .int .u64 l] ∧ fd = ok) (hb : Below w0.heap.size w0 W)
    (u0 u1 u2 u4 u5 u6 u7 u8 u10 u11 u12 u13 u14 u19 u20 u21 u22 u23 u24 u25 u26 u27 u28 u29 u30 u31 u32 u33 u34 u35 u36 u37 u38 u39 u40 u41 u42 u43 u44 u45 u46 u47 u48 u49 u50 u51 u52 u53 u54 u55 u56 u57 u58 u59 u60 u61 u62 u63 u64 u65 u66 u67 u68 u69 u70 u71 u72 u73 u74 u75 u76 u77 u78 u79 u80 u81 u82 u83 u84 u85 u86 u87 u88 u89 u90 u91 u92 u93 u94 u95 u96 u97 u98 u99 u100 u101 u102 u103 u104 u105 u106 u107 u108 u109 u110 u111 u112 u113 u114 u115 u116 u117 u118 u119 u120 u121 u122 u123 u124 u125 u126 u127 u128 u129 u130 u131 u132 u133 u134 u135 u136 u137 u138 u139 u140 u141 u142 u143 u144 u145 u146 u147 u148 u149 u150 u151 u152 u153 u154 : Value) :
    Code.wp Yba.prog (chain2 34 (Yba.f4.body.getD .skip)) (bodyPost Yba.prog Yba.f4 fun e w' => e = .returned (.bool true) ∧ Below w0.heap.size w0 w')
      ⟨#[u0, u1, u2, .bool false, u4, u5, u6, u7, u8, .string q, u10, u11, u12, u13, u14, .pointer (some ⟨V, 0, none⟩), .slice (some ⟨K, 0, none⟩) n kc, .pointer (some ⟨A, 0, none⟩), .bool ok, u19, u20, u21, u22, u23, u24, u25, u26, u27, u28, u29, u30, u31, u32, u33, u34, u35, u36, u37, u38, u39, u40, u41, u42, u43, u44, u45, u46, u47, u48, u49, u50, u51, u52, u53, u54, u55, u56, u57, u58, u59, u60, u61, u62, u63, u64, u65, u66, u67, u68, u69, u70, u71, u72, u73, u74, u75, u76, u77, u78, u79, u80, u81, u82, u83, u84, u85, u86, u87, u88, u89, u90, u91, u92, u93, u94, u95, u96, u97, u98, u99, u100, u101, u102, u103, u104, u105, u106, u107, u108, u109, u110, u111, u112, u113, u114, u115, u116, u117, u118, u119, u120, u121, u122, u123, u124, u125, u126, u127, u128, u129, u130, u131, u132, u133, u134, u135, u136, u137, u138, u139, u140, u141, u142, u143, u144, u145, u146, u147, u148, u149, u150, u151, u152, u153, u154], []⟩ W := by
  conv => arg 2; whnf
  have hc := named_any 0 0 0 0 (some ⟨NP, 0, none⟩) (some ⟨U, 0, none⟩) n uc z q W hn (.inr ⟨NP, rfl, cell_of hNP rfl⟩) (.inr ⟨U, 0, rfl, hU⟩)
  have HC := show Hid _ from hc
  unfold vec at HC
  have x0 := cell_of (i := 0) hV rfl
  have x1 := cell_of (i := 1) hV rfl
  have x2 := cell_of (i := 2) hV rfl
  have x3 := cell_of (i := 3) hV rfl
  have x4 := cell_of (i := 4) hV rfl
  have HV := show Hid _ from And.intro hV (And.intro hA (And.intro hNP (And.intro hU (And.intro hK (And.intro hw hn)))))
  have n26 := Yba.neq26 h l
  have e37 := eql_nil ⟨NP, 0, none⟩
  clear hc hV hA hNP hU hK hw hn
  go_wp2_with fail
  refine Calls.mono HC.out ?_
  rintro e w1 ⟨hb1, i, fd, he, hh⟩
  obtain ⟨hV, hA, hNP, hU, hK, hw, hn⟩ := HV.out
  obtain ⟨e1, e2⟩ := hw i fd hh
  rw [e1, e2] at he
  subst he
  have v1 : w1.heap[V]? = some (.cells #[.int .i64 0, .int .u64 0, .int .i64 0, .int .u64 0, .pointer (some ⟨NP, 0, none⟩)] 41 (0, 0)) := by rw [hb1.block _ (lt_of_block'' hV)]; exact hV
  have v2 : w1.heap[A]? = some (.cells #[.int .i64 h, .int .u64 l] 26 (0, 0)) := by rw [hb1.block _ (lt_of_block'' hA)]; exact hA
  have v3 : w1.heap[NP]? = some (.cells #[.slice (some ⟨U, 0, none⟩) n uc] 39 (0, 0)) := by rw [hb1.block _ (lt_of_block'' hNP)]; exact hNP
  have l1 := lt_of_block'' v1
  have l2 := lt_of_block'' v2
  have l3 := lt_of_block'' v3
  have m4 := fun ob => (World.cell?_alloc_lt w1 ob ⟨V, 4, none⟩ l1).trans (cell_of (i := 4) v1 rfl)
  have m0 := fun ob => (World.cell?_alloc_lt w1 ob ⟨A, 0, none⟩ l2).trans (cell_of (i := 0) v2 rfl)
  have m1 := fun ob => (World.cell?_alloc_lt w1 ob ⟨A, 1, none⟩ l2).trans (cell_of (i := 1) v2 rfl)
  have m5 := fun ob => (World.cell?_alloc_lt w1 ob ⟨NP, 0, none⟩ l3).trans (cell_of (i := 0) v3 rfl)
  have hal := (Below.refl w1.heap.size w1).alloc (Nat.le_refl _) (.cells #[.int .i64 h, .int .u64 l] 26)
  have hba := hb1.trans (hal.mono hb1.size)
  have HE := show Hid _ from equal_any U K n uc kc z _ hn (hU.later hba) (hK.later hba)
  have HB := show Hid _ from hba
  clear hh hb1 v1 v2 v3 x0 x1 x2 x3 x4 l1 l2 l3 hV hA hNP hU hK hw hn hal hba e1 e2
  dsimp only
  cases ok
  all_goals
    go_wp2_with fail
    refine Calls.mono HE.out ?_
    rintro e w2 ⟨rfl, d, rfl⟩
    dsimp only
    go_wp2_with fail
    go_ret
    exact ⟨rfl, below_drewN (hb.trans (HB.out.mono hb.size)) _⟩
end Go.Proofs.Ybulkexnoq
