import Derived.Test.YbulkexnoqQSame
import Derived.Deep.DeepCutAuto
namespace Go.Proofs.Ybulkexnoq
open Go.RowKit
set_option linter.unusedVariables false
set_option linter.unusedSimpArgs false

/-- The number of the first region of a piece of code. -/
def headReg : Code → Nat
  | .region k _ _ => k
  | .seq a _ => headReg a
  | .block _ c => headReg c
  | .loop c => headReg c
  | .scope c => headReg c
  | _ => 1000000
/-- The chain of statements that begins with region r, wherever it lies. -/
def find (r : Nat) : Code → Option Code
  | .seq a b => match headReg a == r with
    | true => some (.seq a b)
    | false => match find r a with
      | some c => some c
      | none => find r b
  | .block _ c => find r c
  | .loop c => find r c
  | .scope c => find r c
  | .cond _ a b => match find r a with
    | some c => some c
    | none => find r b
  | _ => none
def chain (r : Nat) (c : Code) : Code := (find r c).getD .skip

/-- Where the named amounts lie that came in: np's list, and keep. -/
structure Old (NP L K n c0 : Nat) (x : Nat → Ent) (W : World) : Prop where
  np : W.heap[NP]? = some (.cells #[.slice (some ⟨L, 0, none⟩) n c0] 39 (0, 0))
  li : At3 W L 0 n x
  ke : At3 W K 0 n x
theorem At3.far {w w' : World} {b o n : Nat} {x : Nat → Ent} (h : At3 w b o n x) (e : w'.heap[b]? = w.heap[b]?) : At3 w' b o n x := fun i hi => by
  have k : ∀ j, w'.cell? ⟨b, j, none⟩ = w.cell? ⟨b, j, none⟩ := fun j => World.cell?_of_block e
  rw [k, k, k]
  exact h i hi
theorem Old.far {NP L K n c0 : Nat} {x : Nat → Ent} {W W' : World} (h : Old NP L K n c0 x W) (e1 : W'.heap[NP]? = W.heap[NP]?) (e2 : W'.heap[L]? = W.heap[L]?) (e3 : W'.heap[K]? = W.heap[K]?) : Old NP L K n c0 x W' :=
  ⟨by rw [e1]; exact h.np, h.li.far e2, h.ke.far e3⟩

set_option maxRecDepth 100000 in
set_option maxHeartbeats 1000000 in
theorem t49 (w0 W : World) (NP L K n c0 kc g len cap m : Nat) (x : Nat → Ent) (F : Nat → Value) (hn0 : 0 < n) (hn : n ≤ 1048576) (ho : Old NP L K n c0 x W) (hr : W.rowIs g 36 m F) (hm : len * 3 ≤ m) (hlen : len ≤ 1048576) (h1 : NP ≠ g) (h2 : L ≠ g) (h3 : K ≠ g)
    (hb : Below w0.heap.size w0 W) (hg0 : w0.heap.size ≤ g)
    (u0 u1 u2 u3 u4 u5 u6 u7 u9 u10 u12 u13 u14 u15 u16 u18 u19 u20 u21 u22 u23 u24 u25 u26 u27 u28 u29 u30 u31 u32 u33 u34 u35 u36 u37 u38 u39 u40 u41 u42 u43 u44 u45 u46 u47 u48 u49 u50 u51 u52 u53 u54 u55 u56 u57 u58 u59 u60 u61 u62 u63 u64 u65 u66 u67 u68 u69 u70 u71 u72 u73 u74 u75 u76 u77 u78 u79 u80 u81 u82 u83 u84 u85 u86 u87 u88 u89 u90 u91 u92 u93 u94 u95 u96 u97 u98 u99 u100 u101 u102 u103 u104 u105 u106 u107 u108 u109 u110 u111 u112 u113 u114 u115 u116 u117 u118 u119 u120 u121 u122 u123 u124 u125 u126 u127 u128 u129 u130 u131 u132 u133 u134 u135 u136 u137 u138 u139 u140 u141 u142 u143 u144 u145 u146 u147 u148 u149 u150 u151 u152 u153 u154 u155 u156 u157 u158 u159 u160 u161 u162 u163 u164 u165 u166 u167 u168 u169 u170 u171 u172 u173 u174 u175 u176 u177 u178 u179 u180 u181 : Value) :
    Code.wp Yba.prog (chain 49 (Yba.f3.body.getD .skip)) (bodyPost Yba.prog Yba.f3 fun e w' => e = .returned (.bool true) ∧ Below w0.heap.size w0 w')
      ⟨#[u0, u1, u2, u3, u4, u5, u6, u7, .slice (some ⟨K, 0, none⟩) n kc, u9, u10, .pointer (some ⟨NP, 0, none⟩), u12, u13, u14, u15, u16, .slice (some ⟨g, 0, none⟩) len cap, u18, u19, u20, u21, u22, u23, u24, u25, u26, u27, u28, u29, u30, u31, u32, u33, u34, u35, u36, u37, u38, u39, u40, u41, u42, u43, u44, u45, u46, u47, u48, u49, u50, u51, u52, u53, u54, u55, u56, u57, u58, u59, u60, u61, u62, u63, u64, u65, u66, u67, u68, u69, u70, u71, u72, u73, u74, u75, u76, u77, u78, u79, u80, u81, u82, u83, u84, u85, u86, u87, u88, u89, u90, u91, u92, u93, u94, u95, u96, u97, u98, u99, u100, u101, u102, u103, u104, u105, u106, u107, u108, u109, u110, u111, u112, u113, u114, u115, u116, u117, u118, u119, u120, u121, u122, u123, u124, u125, u126, u127, u128, u129, u130, u131, u132, u133, u134, u135, u136, u137, u138, u139, u140, u141, u142, u143, u144, u145, u146, u147, u148, u149, u150, u151, u152, u153, u154, u155, u156, u157, u158, u159, u160, u161, u162, u163, u164, u165, u166, u167, u168, u169, u170, u171, u172, u173, u174, u175, u176, u177, u178, u179, u180, u181], []⟩ W := by
  conv => arg 2; whnf
  have HO := show Hid _ from ho
  have HR := show Hid _ from hr
  have HN := show Hid _ from And.intro hn hn0
  clear ho hr hn hn0
  go_wp2_with fail
  go_loopg [19] len (fun gh s19 wr => ∃ k : Nat, k ≤ len ∧ len - k ≤ gh ∧ s19 = .int .i64 k ∧ Below w0.heap.size w0 wr ∧ Hid (Old NP L K n c0 x wr) ∧ ∃ G, Hid (wr.rowIs g 36 m G))
  case atStart => exact ⟨0, Nat.zero_le _, by omega, rfl, hb, HO, F, HR⟩
  case round =>
    clear HO HR
    obtain ⟨k, hk, hg, rfl, hbw, HO, G, HR⟩ := hrel
    by_cases hlt : k < len
    · have hr := rowIs_of' HR.out
      have s0 := hr.cell (show k * 3 < m by omega)
      have s1 := hr.cell (show k * 3 + 1 < m by omega)
      have s2 := hr.cell (show k * 3 + 2 < m by omega)
      have f0 := hr.frozen (k * 3)
      have f1 := hr.frozen (k * 3 + 1)
      have f2 := hr.frozen (k * 3 + 2)
      have e2 : decide ((k : Int) < (len : Int)) = true := decide_eq_true (by omega)
      clear hr
      go_wp2_with fail
      go_roundg (len - (k + 1))
      case measure => omega
      case rel =>
        refine ⟨k + 1, by omega, by omega, by go_num, ((hbw.setCell (p := ⟨g, k * 3, none⟩) hg0 _).setCell (p := ⟨g, k * 3 + 1, none⟩) hg0 _).setCell (p := ⟨g, k * 3 + 2, none⟩) hg0 _, ?_, _, ((rowIs_of' HR.out).set (k * 3) _).set (k * 3 + 1) _ |>.set (k * 3 + 2) _⟩
        refine Old.far HO.out ?_ ?_ ?_
        · repeat rw [Below.heap_setCell _ _ _ _ h1]
        · repeat rw [Below.heap_setCell _ _ _ _ h2]
        · repeat rw [Below.heap_setCell _ _ _ _ h3]
    · obtain rfl : k = len := by omega
      have e2 : decide ((k : Int) < (k : Int)) = false := decide_eq_false (by omega)
      have hs := same_any NP L K n c0 kc x wr HN.out.1 (cell_of HO.out.np rfl) HO.out.li HO.out.ke
      have HS := show Hid _ from hs
      clear hs
      go_wp2_with fail
      refine Calls.mono HS.out ?_
      rintro e w' ⟨rfl, q, rfl⟩
      dsimp only
      go_wp2_with fail
      go_ret
      exact ⟨rfl, below_drewN hbw _⟩

set_option maxRecDepth 100000 in
set_option maxHeartbeats 1000000 in
theorem t44 (w0 W : World) (NP L K n c0 kc g len cap m Wb wc : Nat) (x y : Nat → Ent) (F : Nat → Value) (hn0 : 0 < n) (hn : n ≤ 1048576) (ho : Old NP L K n c0 x W) (hr : W.rowIs g 36 m F) (hm : len * 3 ≤ m) (hlen : len ≤ 1048576) (hF : ∀ q, q < len * 3 → F q = cell3 y q)
    (hw : At3 W Wb 0 len y) (h1 : NP ≠ g) (h2 : L ≠ g) (h3 : K ≠ g)
    (hb : Below w0.heap.size w0 W) (hg0 : w0.heap.size ≤ g)
    (u0 u1 u2 u3 u4 u5 u6 u7 u9 u10 u12 u13 u15 u16 u18 u19 u20 u21 u22 u23 u24 u25 u26 u27 u28 u29 u30 u31 u32 u33 u34 u35 u36 u37 u38 u39 u40 u41 u42 u43 u44 u45 u46 u47 u48 u49 u50 u51 u52 u53 u54 u55 u56 u57 u58 u59 u60 u61 u62 u63 u64 u65 u66 u67 u68 u69 u70 u71 u72 u73 u74 u75 u76 u77 u78 u79 u80 u81 u82 u83 u84 u85 u86 u87 u88 u89 u90 u91 u92 u93 u94 u95 u96 u97 u98 u99 u100 u101 u102 u103 u104 u105 u106 u107 u108 u109 u110 u111 u112 u113 u114 u115 u116 u117 u118 u119 u120 u121 u122 u123 u124 u125 u126 u127 u128 u129 u130 u131 u132 u133 u134 u135 u136 u137 u138 u139 u140 u141 u142 u143 u144 u145 u146 u147 u148 u149 u150 u151 u152 u153 u154 u155 u156 u157 u158 u159 u160 u161 u162 u163 u164 u165 u166 u167 u168 u169 u170 u171 u172 u173 u174 u175 u176 u177 u178 u179 u180 u181 : Value) :
    Code.wp Yba.prog (chain 44 (Yba.f3.body.getD .skip)) (bodyPost Yba.prog Yba.f3 fun e w' => e = .returned (.bool true) ∧ Below w0.heap.size w0 w')
      ⟨#[u0, u1, u2, u3, u4, u5, u6, u7, .slice (some ⟨K, 0, none⟩) n kc, u9, u10, .pointer (some ⟨NP, 0, none⟩), u12, u13, .slice (some ⟨Wb, 0, none⟩) len wc, u15, u16, .slice (some ⟨g, 0, none⟩) len cap, u18, u19, u20, u21, u22, u23, u24, u25, u26, u27, u28, u29, u30, u31, u32, u33, u34, u35, u36, u37, u38, u39, u40, u41, u42, u43, u44, u45, u46, u47, u48, u49, u50, u51, u52, u53, u54, u55, u56, u57, u58, u59, u60, u61, u62, u63, u64, u65, u66, u67, u68, u69, u70, u71, u72, u73, u74, u75, u76, u77, u78, u79, u80, u81, u82, u83, u84, u85, u86, u87, u88, u89, u90, u91, u92, u93, u94, u95, u96, u97, u98, u99, u100, u101, u102, u103, u104, u105, u106, u107, u108, u109, u110, u111, u112, u113, u114, u115, u116, u117, u118, u119, u120, u121, u122, u123, u124, u125, u126, u127, u128, u129, u130, u131, u132, u133, u134, u135, u136, u137, u138, u139, u140, u141, u142, u143, u144, u145, u146, u147, u148, u149, u150, u151, u152, u153, u154, u155, u156, u157, u158, u159, u160, u161, u162, u163, u164, u165, u166, u167, u168, u169, u170, u171, u172, u173, u174, u175, u176, u177, u178, u179, u180, u181], []⟩ W := by
  conv => arg 2; whnf
  have HO := show Hid _ from ho
  have HR := show Hid _ from hr
  have HN := show Hid _ from And.intro hn hn0
  have HG := show Hid _ from at_row hr hm hF
  have HW := show Hid _ from hw
  have n36 := fun i => Yba.neq36 (y i).1 (y i).2.1 (y i).2.2
  clear ho hr hn hn0 hF hw
  go_wp2_with fail
  go_loopg [18] len (fun gh s18 wr => ∃ k q : Nat, k ≤ len ∧ len - k ≤ gh ∧ s18 = .int .i64 k ∧ wr = W.drewN q)
  case atStart => exact ⟨0, 0, Nat.zero_le _, by omega, rfl, rfl⟩
  case round =>
    rename_i Kx hKx J1 J2 J3 J4
    have HK := show Hid _ from hKx
    clear hKx
    obtain ⟨k, q, hk, hg, rfl, rfl⟩ := hrel
    by_cases hlt : k < len
    · obtain ⟨a0, a1, a2⟩ := HG.out k hlt
      obtain ⟨b0, b1, b2⟩ := HW.out k hlt
      simp only [Nat.zero_add] at a0 a1 a2 b0 b1 b2
      have e2 : decide ((k : Int) < (len : Int)) = true := decide_eq_true (by omega)
      go_wp2_with fail
      go_quiet (fail)
      go_wp2_with fail
      go_roundg (len - (k + 1))
      case measure => omega
      case rel => exact ⟨k + 1, _, by omega, by omega, by go_num, rfl⟩
    · obtain rfl : k = len := by omega
      have e2 : decide ((k : Int) < (k : Int)) = false := decide_eq_false (by omega)
      go_wp2_with fail
      refine HK.out _ _ ?_
      apply t49 w0 (W.drewN q) NP L K n c0 kc g k cap m x F HN.out.2 HN.out.1 (Old.far HO.out rfl rfl rfl) ((rowIs_of' HR.out).of_block rfl) hm hlen h1 h2 h3 (below_drewN hb _) hg0
end Go.Proofs.Ybulkexnoq
