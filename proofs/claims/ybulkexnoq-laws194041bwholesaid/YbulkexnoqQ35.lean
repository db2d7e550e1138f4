import Derived.Test.YbulkexnoqQ44
namespace Go.Proofs.Ybulkexnoq
open Go.RowKit
set_option linter.unusedVariables false
set_option linter.unusedSimpArgs false

theorem Yba.info39 : (Yba.prog.info? 39).map (fun i => (i.zero, i.size, i.bytes)) = some (some (.agg #[.slice none 0 0]), 1, 24) := by kernel_rfl
theorem eql_same (np : Option Addr) (V : World) : (binOp .eql 37 (.pointer np) (.pointer np)).run Yba.prog V = .ok (.bool true) V := by
  obtain ⟨i0, hi, _⟩ := info_parts Yba.info39
  cases np with
  | none => kernel_rfl
  | some a => exact run_eql_ptr_same V a Yba.underlying37 hi
theorem eql_nil (a : Addr) (V : World) : (binOp .eql 37 (.pointer (some a)) (.pointer none)).run Yba.prog V = .ok (.bool false) V := by kernel_rfl
theorem eql_other {a b : Nat} {ca cb : Array Value} {ta tb : TypeId} (hne : a ≠ b) (V : World) (ha : V.heap[a]? = some (.cells ca ta (0, 0))) (hb : V.heap[b]? = some (.cells cb tb (0, 0))) :
    (binOp .eql 37 (.pointer (some ⟨a, 0, none⟩)) (.pointer (some ⟨b, 0, none⟩))).run Yba.prog V = .ok (.bool false) V := by
  obtain ⟨i0, hi, _, hs, _⟩ := info_parts Yba.info39
  exact run_eql_ptr_other V Yba.underlying37 hi (by omega) (fun e => hne (by injection e)) ha hb

set_option maxRecDepth 100000 in
set_option maxHeartbeats 1000000 in
theorem t35a (w0 W : World) (G : Nat) (np : Option Addr) (hG : W.cell? ⟨G, 4, none⟩ = some (.pointer np)) (hb : Below w0.heap.size w0 W)
    (u0 u1 u2 u3 u4 u5 u6 u7 u8 u9 u10 u12 u14 u16 u17 u18 u19 u20 u21 u22 u23 u24 u25 u26 u27 u28 u29 u30 u31 u32 u33 u34 u35 u36 u37 u38 u39 u40 u41 u42 u43 u44 u45 u46 u47 u48 u49 u50 u51 u52 u53 u54 u55 u56 u57 u58 u59 u60 u61 u62 u63 u64 u65 u66 u67 u68 u69 u70 u71 u72 u73 u74 u75 u76 u77 u78 u79 u80 u81 u82 u83 u84 u85 u86 u87 u88 u89 u90 u91 u92 u93 u94 u95 u96 u97 u98 u99 u100 u101 u102 u103 u104 u105 u106 u107 u108 u109 u110 u111 u112 u113 u114 u115 u116 u117 u118 u119 u120 u121 u122 u123 u124 u125 u126 u127 u128 u129 u130 u131 u132 u133 u134 u135 u136 u137 u138 u139 u140 u141 u142 u143 u144 u145 u146 u147 u148 u149 u150 u151 u152 u153 u154 u155 u156 u157 u158 u159 u160 u161 u162 u163 u164 u165 u166 u167 u168 u169 u170 u171 u172 u173 u174 u175 u176 u177 u178 u179 u180 u181 : Value) :
    Code.wp Yba.prog (chain 35 (Yba.f3.body.getD .skip)) (bodyPost Yba.prog Yba.f3 fun e w' => e = .returned (.bool true) ∧ Below w0.heap.size w0 w')
      ⟨#[u0, u1, u2, u3, u4, u5, u6, u7, u8, u9, u10, .pointer np, u12, .pointer (some ⟨G, 0, none⟩), u14, .bool true, u16, u17, u18, u19, u20, u21, u22, u23, u24, u25, u26, u27, u28, u29, u30, u31, u32, u33, u34, u35, u36, u37, u38, u39, u40, u41, u42, u43, u44, u45, u46, u47, u48, u49, u50, u51, u52, u53, u54, u55, u56, u57, u58, u59, u60, u61, u62, u63, u64, u65, u66, u67, u68, u69, u70, u71, u72, u73, u74, u75, u76, u77, u78, u79, u80, u81, u82, u83, u84, u85, u86, u87, u88, u89, u90, u91, u92, u93, u94, u95, u96, u97, u98, u99, u100, u101, u102, u103, u104, u105, u106, u107, u108, u109, u110, u111, u112, u113, u114, u115, u116, u117, u118, u119, u120, u121, u122, u123, u124, u125, u126, u127, u128, u129, u130, u131, u132, u133, u134, u135, u136, u137, u138, u139, u140, u141, u142, u143, u144, u145, u146, u147, u148, u149, u150, u151, u152, u153, u154, u155, u156, u157, u158, u159, u160, u161, u162, u163, u164, u165, u166, u167, u168, u169, u170, u171, u172, u173, u174, u175, u176, u177, u178, u179, u180, u181], []⟩ W := by
  conv => arg 2; whnf
  have he := eql_same np
  go_wp2_with fail
  go_ret
  exact ⟨rfl, hb⟩

set_option maxRecDepth 100000 in
set_option maxHeartbeats 1000000 in
theorem t35b (w0 W : World) (G wc : Nat) (wp : Option Addr) (hG : W.cell? ⟨G, 4, none⟩ = some (.pointer none)) (hb : Below w0.heap.size w0 W)
    (u0 u1 u2 u3 u4 u5 u6 u7 u8 u9 u10 u11 u12 u16 u17 u18 u19 u20 u21 u22 u23 u24 u25 u26 u27 u28 u29 u30 u31 u32 u33 u34 u35 u36 u37 u38 u39 u40 u41 u42 u43 u44 u45 u46 u47 u48 u49 u50 u51 u52 u53 u54 u55 u56 u57 u58 u59 u60 u61 u62 u63 u64 u65 u66 u67 u68 u69 u70 u71 u72 u73 u74 u75 u76 u77 u78 u79 u80 u81 u82 u83 u84 u85 u86 u87 u88 u89 u90 u91 u92 u93 u94 u95 u96 u97 u98 u99 u100 u101 u102 u103 u104 u105 u106 u107 u108 u109 u110 u111 u112 u113 u114 u115 u116 u117 u118 u119 u120 u121 u122 u123 u124 u125 u126 u127 u128 u129 u130 u131 u132 u133 u134 u135 u136 u137 u138 u139 u140 u141 u142 u143 u144 u145 u146 u147 u148 u149 u150 u151 u152 u153 u154 u155 u156 u157 u158 u159 u160 u161 u162 u163 u164 u165 u166 u167 u168 u169 u170 u171 u172 u173 u174 u175 u176 u177 u178 u179 u180 u181 : Value) :
    Code.wp Yba.prog (chain 35 (Yba.f3.body.getD .skip)) (bodyPost Yba.prog Yba.f3 fun e w' => e = .returned (.bool true) ∧ Below w0.heap.size w0 w')
      ⟨#[u0, u1, u2, u3, u4, u5, u6, u7, u8, u9, u10, u11, u12, .pointer (some ⟨G, 0, none⟩), .slice wp 0 wc, .bool false, u16, u17, u18, u19, u20, u21, u22, u23, u24, u25, u26, u27, u28, u29, u30, u31, u32, u33, u34, u35, u36, u37, u38, u39, u40, u41, u42, u43, u44, u45, u46, u47, u48, u49, u50, u51, u52, u53, u54, u55, u56, u57, u58, u59, u60, u61, u62, u63, u64, u65, u66, u67, u68, u69, u70, u71, u72, u73, u74, u75, u76, u77, u78, u79, u80, u81, u82, u83, u84, u85, u86, u87, u88, u89, u90, u91, u92, u93, u94, u95, u96, u97, u98, u99, u100, u101, u102, u103, u104, u105, u106, u107, u108, u109, u110, u111, u112, u113, u114, u115, u116, u117, u118, u119, u120, u121, u122, u123, u124, u125, u126, u127, u128, u129, u130, u131, u132, u133, u134, u135, u136, u137, u138, u139, u140, u141, u142, u143, u144, u145, u146, u147, u148, u149, u150, u151, u152, u153, u154, u155, u156, u157, u158, u159, u160, u161, u162, u163, u164, u165, u166, u167, u168, u169, u170, u171, u172, u173, u174, u175, u176, u177, u178, u179, u180, u181], []⟩ W := by
  conv => arg 2; whnf
  have he := eql_same none
  go_wp2_with fail
  go_ret
  exact ⟨rfl, hb⟩

set_option maxRecDepth 100000 in
set_option maxHeartbeats 1000000 in
theorem t35c (w0 W : World) (G NP L K n c0 kc g len cap m Wb wc N2 : Nat) (x y : Nat → Ent) (F : Nat → Value) (hG : W.cell? ⟨G, 4, none⟩ = some (.pointer (some ⟨N2, 0, none⟩))) (hN2 : W.heap[N2]? = some (.cells #[.slice (some ⟨g, 0, none⟩) len cap] 39 (0, 0))) (hl0 : len ≠ 0)
    (hn0 : 0 < n) (hn : n ≤ 1048576) (ho : Old NP L K n c0 x W) (hr : W.rowIs g 36 m F) (hm : len * 3 ≤ m) (hlen : len ≤ 1048576) (hF : ∀ q, q < len * 3 → F q = cell3 y q)
    (hw : At3 W Wb 0 len y) (h0 : NP ≠ N2) (h1 : NP ≠ g) (h2 : L ≠ g) (h3 : K ≠ g)
    (hb : Below w0.heap.size w0 W) (hg0 : w0.heap.size ≤ g)
    (u0 u1 u2 u3 u4 u5 u6 u7 u9 u10 u12 u16 u17 u18 u19 u20 u21 u22 u23 u24 u25 u26 u27 u28 u29 u30 u31 u32 u33 u34 u35 u36 u37 u38 u39 u40 u41 u42 u43 u44 u45 u46 u47 u48 u49 u50 u51 u52 u53 u54 u55 u56 u57 u58 u59 u60 u61 u62 u63 u64 u65 u66 u67 u68 u69 u70 u71 u72 u73 u74 u75 u76 u77 u78 u79 u80 u81 u82 u83 u84 u85 u86 u87 u88 u89 u90 u91 u92 u93 u94 u95 u96 u97 u98 u99 u100 u101 u102 u103 u104 u105 u106 u107 u108 u109 u110 u111 u112 u113 u114 u115 u116 u117 u118 u119 u120 u121 u122 u123 u124 u125 u126 u127 u128 u129 u130 u131 u132 u133 u134 u135 u136 u137 u138 u139 u140 u141 u142 u143 u144 u145 u146 u147 u148 u149 u150 u151 u152 u153 u154 u155 u156 u157 u158 u159 u160 u161 u162 u163 u164 u165 u166 u167 u168 u169 u170 u171 u172 u173 u174 u175 u176 u177 u178 u179 u180 u181 : Value) :
    Code.wp Yba.prog (chain 35 (Yba.f3.body.getD .skip)) (bodyPost Yba.prog Yba.f3 fun e w' => e = .returned (.bool true) ∧ Below w0.heap.size w0 w')
      ⟨#[u0, u1, u2, u3, u4, u5, u6, u7, .slice (some ⟨K, 0, none⟩) n kc, u9, u10, .pointer (some ⟨NP, 0, none⟩), u12, .pointer (some ⟨G, 0, none⟩), .slice (some ⟨Wb, 0, none⟩) len wc, .bool false, u16, u17, u18, u19, u20, u21, u22, u23, u24, u25, u26, u27, u28, u29, u30, u31, u32, u33, u34, u35, u36, u37, u38, u39, u40, u41, u42, u43, u44, u45, u46, u47, u48, u49, u50, u51, u52, u53, u54, u55, u56, u57, u58, u59, u60, u61, u62, u63, u64, u65, u66, u67, u68, u69, u70, u71, u72, u73, u74, u75, u76, u77, u78, u79, u80, u81, u82, u83, u84, u85, u86, u87, u88, u89, u90, u91, u92, u93, u94, u95, u96, u97, u98, u99, u100, u101, u102, u103, u104, u105, u106, u107, u108, u109, u110, u111, u112, u113, u114, u115, u116, u117, u118, u119, u120, u121, u122, u123, u124, u125, u126, u127, u128, u129, u130, u131, u132, u133, u134, u135, u136, u137, u138, u139, u140, u141, u142, u143, u144, u145, u146, u147, u148, u149, u150, u151, u152, u153, u154, u155, u156, u157, u158, u159, u160, u161, u162, u163, u164, u165, u166, u167, u168, u169, u170, u171, u172, u173, u174, u175, u176, u177, u178, u179, u180, u181], []⟩ W := by
  conv => arg 2; whnf
  have he1 := eql_nil ⟨N2, 0, none⟩
  have he2 := eql_other (fun e => h0 e.symm) W hN2 ho.np
  have k2 := cell_of (i := 0) hN2 rfl
  have hl1 : ((len : Int) == 0) = false := by simpa using hl0
  have H1 := show Hid _ from And.intro hn0 (And.intro hn (And.intro ho (And.intro hr (And.intro hm (And.intro hlen (And.intro hF hw))))))
  clear hn0 hn ho hr hm hlen hF hw hN2 hl0
  go_upto_region 42 with (fail)
  rename_i K3 hK3 K4 hK4
  have HK3 := show Hid _ from hK3
  clear hK3
  go_wp2_with fail
  refine HK3.out _ _ ?_
  obtain ⟨hn0, hn, ho, hr, hm, hlen, hF, hw⟩ := H1.out
  apply t44 w0 W NP L K n c0 kc g len cap m Wb wc x y F hn0 hn ho hr hm hlen hF hw h1 h2 h3 hb hg0
end Go.Proofs.Ybulkexnoq
