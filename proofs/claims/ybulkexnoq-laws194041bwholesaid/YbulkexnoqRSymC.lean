import Derived.Test.YbulkexnoqRSymB
import Derived.Deep.DeepCutAuto
namespace Go.Proofs.Ybulkexnoq
open Go.RowKit
set_option linter.unusedVariables false
set_option linter.unusedSimpArgs false

def headReg2 : Code → Nat
  | .region k _ _ => k
  | .seq a _ => headReg2 a
  | .block _ c => headReg2 c
  | .loop c => headReg2 c
  | .scope c => headReg2 c
  | _ => 1000000
def find2 (r : Nat) : Code → Option Code
  | .seq a b => match headReg2 a == r with
    | true => some (.seq a b)
    | false => match find2 r a with
      | some c => some c
      | none => find2 r b
  | .block _ c => find2 r c
  | .loop c => find2 r c
  | .scope c => find2 r c
  | .cond _ a b => match find2 r a with
    | some c => some c
    | none => find2 r b
  | _ => none
def chain2 (r : Nat) (c : Code) : Code := (find2 r c).getD .skip

theorem Kept.refl (x : Nat → Ent) (a b : Nat) : Kept x x a b := ⟨fun _ _ => rfl, fun t h1 h2 => ⟨t, h1, h2, rfl⟩⟩
theorem Kept.trans {x y z : Nat → Ent} {a b : Nat} (h : Kept x y a b) (k : Kept y z a b) : Kept x z a b := by
  refine ⟨fun t ht => (k.1 t ht).trans (h.1 t ht), fun t h1 h2 => ?_⟩
  obtain ⟨s, s1, s2, e⟩ := k.2 t h1 h2
  obtain ⟨r, r1, r2, e'⟩ := h.2 s s1 s2
  exact ⟨r, r1, r2, e.trans e'⟩
theorem Kept.wide {x y : Nat → Ent} {a b a' b' : Nat} (h : Kept x y a b) (h1 : a' ≤ a) (h2 : b ≤ b') : Kept x y a' b' := by
  refine ⟨fun t ht => h.1 t (by omega), fun t t1 t2 => ?_⟩
  by_cases c : a ≤ t ∧ t < b
  · obtain ⟨s, s1, s2, e⟩ := h.2 t c.1 c.2
    exact ⟨s, by omega, by omega, e⟩
  · exact ⟨t, t1, t2, h.1 t (by omega)⟩
theorem Srt.congr {x y : Nat → Ent} {a b : Nat} (h : Srt x a b) (e : ∀ t, a ≤ t → t < b → y t = x t) : Srt y a b := fun i j h1 h2 h3 => by
  rw [e i h1 (by omega), e j (by omega) h3]
  exact h i j h1 h2 h3
theorem Srt.sub {x : Nat → Ent} {a b a' b' : Nat} (h : Srt x a b) (h1 : a ≤ a') (h2 : b' ≤ b) : Srt x a' b' := fun i j k1 k2 k3 => h i j (by omega) k2 (by omega)

/-- The plain law of one split: rotated, the two halves can be merged each for itself. -/
structure Split (x y : Nat → Ent) (a mm b mid s e : Nat) : Prop where
  kept : Kept x y a b
  s1 : Srt y a s
  s2 : Srt y s mid
  s3 : Srt y mid e
  s4 : Srt y e b
  cross : ∀ t u, a ≤ t → t < mid → mid ≤ u → u < b → lt (y u) (y t) = false

theorem rot_1 {x : Nat → Ent} {s mm e t : Nat} (h : t < s) : rot x s mm e t = x t := by
  unfold rot; rw [if_neg (by omega), if_neg (by omega)]
theorem rot_2 {x : Nat → Ent} {s mm e mid t : Nat} (hm : s + (e - mm) = mid) (h1 : s ≤ t) (h2 : t < mid) : rot x s mm e t = x (mm + (t - s)) := by
  unfold rot; rw [if_pos (by omega)]
theorem rot_3 {x : Nat → Ent} {s mm e mid t : Nat} (hm : s + (e - mm) = mid) (h1 : mid ≤ t) (h2 : t < e) : rot x s mm e t = x (s + (t - mid)) := by
  unfold rot; rw [if_neg (by omega), if_pos (by omega), hm]
theorem rot_4 {x : Nat → Ent} {s mm e t : Nat} (hs : s + (e - mm) ≤ e) (h : e ≤ t) : rot x s mm e t = x t := by
  unfold rot; rw [if_neg (by omega), if_neg (by omega)]

theorem split_rot {x : Nat → Ent} {a mm b mid s e : Nat} (h1 : Srt x a mm) (h2 : Srt x mm b) (a1 : a ≤ s) (a2 : s ≤ mm) (a3 : mm ≤ e) (a4 : e ≤ b) (hse : s + e = mid + mm)
    (H1 : e = b ∨ s = a ∨ lt (x e) (x (s - 1)) = false) (H2 : s = mm ∨ e = mm ∨ lt (x (e - 1)) (x s) = true) : Split x (rot x s mm e) a mm b mid s e := by
  have hm : s + (e - mm) = mid := by omega
  have hle : s + (e - mm) ≤ e := by omega
  refine ⟨⟨fun t ht => ?_, fun t t1 t2 => ?_⟩, fun i j i1 i2 i3 => ?_, fun i j i1 i2 i3 => ?_, fun i j i1 i2 i3 => ?_, fun i j i1 i2 i3 => ?_, fun t u t1 t2 u1 u2 => ?_⟩
  · rcases ht with ht | ht
    · exact rot_1 (by omega)
    · exact rot_4 hle (by omega)
  · by_cases c1 : t < s
    · exact ⟨t, t1, t2, rot_1 c1⟩
    · by_cases c2 : t < mid
      · exact ⟨_, by omega, by omega, rot_2 hm (by omega) c2⟩
      · by_cases c3 : t < e
        · exact ⟨_, by omega, by omega, rot_3 hm (by omega) c3⟩
        · exact ⟨t, t1, t2, rot_4 hle (by omega)⟩
  · rw [rot_1 (by omega), rot_1 (by omega)]; exact h1 i j i1 i2 (by omega)
  · rw [rot_2 hm (by omega) (by omega), rot_2 hm (by omega) (by omega)]; exact h2 _ _ (by omega) (by omega) (by omega)
  · rw [rot_3 hm (by omega) (by omega), rot_3 hm (by omega) (by omega)]; exact h1 _ _ (by omega) (by omega) (by omega)
  · rw [rot_4 hle (by omega), rot_4 hle (by omega)]; exact h2 i j (by omega) i2 i3
  · by_cases c1 : t < s
    · rw [rot_1 c1]
      by_cases c2 : u < e
      · rw [rot_3 hm u1 c2]; exact h1 _ _ t1 (by omega) (by omega)
      · rw [rot_4 hle (by omega)]
        rcases H1 with H1 | H1 | H1
        · omega
        · omega
        · exact ge_trans (ge_trans (h1.le (i := t) (j := s - 1) (by omega) (by omega) (by omega)) H1) (h2.le (i := e) (j := u) (by omega) (by omega) (by omega))
    · rw [rot_2 hm (by omega) t2]
      by_cases c2 : u < e
      · rw [rot_3 hm u1 c2]
        rcases H2 with H2 | H2 | H2
        · omega
        · omega
        · exact ge_trans (ge_trans (h2.le (i := mm + (t - s)) (j := e - 1) (by omega) (by omega) (by omega)) (lt_asymm H2)) (h1.le (i := s) (j := s + (u - mid)) (by omega) (by omega) (by omega))
      · rw [rot_4 hle (by omega)]; exact h2 _ _ (by omega) (by omega) (by omega)

theorem Split.done {x y z v : Nat → Ent} {a mm b mid s e : Nat} (h : Split x y a mm b mid s e) (h1 : a ≤ mid) (h2 : mid ≤ b) (kz : Kept y z a mid) (sz : Srt z a mid) (kv : Kept z v mid b) (sv : Srt v mid b) : Kept x v a b ∧ Srt v a b := by
  refine ⟨(h.kept.trans (kz.wide (Nat.le_refl _) h2)).trans (kv.wide h1 (Nat.le_refl _)), fun t u t1 t2 u2 => ?_⟩
  by_cases c1 : u < mid
  · rw [kv.1 t (by omega), kv.1 u (by omega)]
    exact sz t u t1 t2 c1
  · by_cases c2 : t < mid
    · rw [kv.1 t (by omega)]
      obtain ⟨t', p1, p2, e1⟩ := kz.2 t t1 c2
      obtain ⟨u', q1, q2, e2⟩ := kv.2 u (by omega) u2
      rw [e1, e2, kz.1 u' (by omega)]
      exact h.cross t' u' p1 p2 q1 q2
    · exact sv t u (by omega) t2 u2

theorem sub64' {a i : Nat} (h : i ≤ a) (ha : a ≤ 4194304) : wrap64 ((a : Int) - (i : Int)) = ((a - i : Nat) : Int) := by rw [w64 (by omega) (by omega)]; omega

set_option maxRecDepth 100000 in
set_option maxHeartbeats 1000000 in
theorem tC43 (g m n c a mm b : Nat) (x : Nat → Ent) (w : World) (W : World) (mid e : Nat) (z : Nat → Ent) (hrec : ∀ (a' m' b' : Nat) (x' : Nat → Ent) (w' : World), a' < m' → m' < b' → b' ≤ n → b' - a' < b - a → Row w' g m n x' → Srt x' a' m' → Srt x' m' b' → Calls Yba.prog 34 #[.slice (some ⟨g, 0, none⟩) n c, .int .i64 (a' : Nat), .int .i64 (m' : Nat), .int .i64 (b' : Nat), fn11] w' fun e w'' => e = .returned (.tuple #[]) ∧ Only g w' w'' ∧ ∃ y, Row w'' g m n y ∧ Kept x' y a' b' ∧ Srt y a' b')
    (hr : Row W g m n z) (ho : Only g w W) (hb : b ≤ n) (c0 : a < mid) (c1 : mid ≤ e) (c2 : e ≤ b) (hz : Srt z mid e) (hz2 : Srt z e b) (hfin : ∀ v, Kept z v mid b → Srt v mid b → Kept x v a b ∧ Srt v a b)
    (u5 u6 u7 u8 u9 u10 u11 u12 u13 u14 u15 u16 u17 u19 u20 u21 u22 u23 u25 u26 u27 u28 u29 u30 u31 u32 u33 u34 u35 u36 u37 u38 u39 u40 u41 u42 u43 u44 u45 u46 u47 u48 u49 u50 u51 u52 u53 u54 u55 u56 u57 u58 u59 u60 u61 u62 u63 u64 u65 u66 u67 u68 u69 u70 u71 u72 u73 u74 u75 u76 u77 u78 u79 u80 u81 u82 u83 u84 u85 u86 u87 u88 u89 u90 u91 u92 u93 u94 u95 u96 u97 u98 u99 u100 u101 u102 u103 u104 u105 u106 u107 u108 u109 u110 u111 u112 u113 u114 u115 u116 u117 u118 u119 u120 u121 u122 u123 u124 u125 u126 u127 u128 u129 u130 u131 u132 u133 u134 u135 u136 u137 u138 u139 u140 u141 u142 u143 u144 u145 u146 u147 u148 u149 u150 u151 u152 u153 u154 u155 u156 u157 u158 u159 u160 u161 u162 u163 u164 u165 u166 u167 u168 u169 u170 u171 u172 u173 u174 u175 u176 u177 u178 u179 u180 u181 u182 u183 u184 u185 u186 u187 u188 u189 u190 u191 u192 u193 u194 u195 u196 u197 u198 u199 u200 u201 u202 u203 u204 u205 u206 u207 u208 u209 u210 u211 u212 u213 u214 u215 u216 u217 u218 u219 : Value) :
    Code.wp Yba.prog (chain2 43 (Yba.f34.body.getD .skip)) (bodyPost Yba.prog Yba.f34 fun e w' => e = .returned (.tuple #[]) ∧ Only g w w' ∧ ∃ y, Row w' g m n y ∧ Kept x y a b ∧ Srt y a b)
      ⟨#[.slice (some ⟨g, 0, none⟩) n c, .int .i64 (a : Nat), .int .i64 (mm : Nat), .int .i64 (b : Nat), .func (.func 11) #[] #[], u5, u6, u7, u8, u9, u10, u11, u12, u13, u14, u15, u16, u17, .int .i64 (mid : Nat), u19, u20, u21, u22, u23, .int .i64 (e : Nat), u25, u26, u27, u28, u29, u30, u31, u32, u33, u34, u35, u36, u37, u38, u39, u40, u41, u42, u43, u44, u45, u46, u47, u48, u49, u50, u51, u52, u53, u54, u55, u56, u57, u58, u59, u60, u61, u62, u63, u64, u65, u66, u67, u68, u69, u70, u71, u72, u73, u74, u75, u76, u77, u78, u79, u80, u81, u82, u83, u84, u85, u86, u87, u88, u89, u90, u91, u92, u93, u94, u95, u96, u97, u98, u99, u100, u101, u102, u103, u104, u105, u106, u107, u108, u109, u110, u111, u112, u113, u114, u115, u116, u117, u118, u119, u120, u121, u122, u123, u124, u125, u126, u127, u128, u129, u130, u131, u132, u133, u134, u135, u136, u137, u138, u139, u140, u141, u142, u143, u144, u145, u146, u147, u148, u149, u150, u151, u152, u153, u154, u155, u156, u157, u158, u159, u160, u161, u162, u163, u164, u165, u166, u167, u168, u169, u170, u171, u172, u173, u174, u175, u176, u177, u178, u179, u180, u181, u182, u183, u184, u185, u186, u187, u188, u189, u190, u191, u192, u193, u194, u195, u196, u197, u198, u199, u200, u201, u202, u203, u204, u205, u206, u207, u208, u209, u210, u211, u212, u213, u214, u215, u216, u217, u218, u219], []⟩ W := by
  conv => arg 2; whnf
  have H := show Hid _ from And.intro hr (And.intro ho hfin)
  by_cases h1 : mid < e
  · by_cases h2 : e < b
    · have hc := hrec mid e b z W h1 h2 hb (by omega) hr hz hz2
      have HC := show Hid _ from hc
      unfold fn11 at HC
      clear hrec hr ho hz hz2 hfin hc
      go_wp2_with fail
      refine Calls.mono HC.out ?_
      rintro e w' ⟨rfl, ho', v, hv, hk, hs⟩
      dsimp only
      go_wp2_with fail
      go_end0
      obtain ⟨hr, ho, hfin⟩ := H.out
      exact ⟨rfl, Only.trans ho ho', v, hv, (hfin v hk hs).1, (hfin v hk hs).2⟩
    · have hsz : Srt z mid b := hz.sub (Nat.le_refl _) (by omega)
      have HZ := show Hid _ from hsz
      clear hrec hr ho hz hz2 hfin hsz
      go_wp2_with fail
      go_end0
      obtain ⟨hr, ho, hfin⟩ := H.out
      exact ⟨rfl, ho, z, hr, (hfin z (Kept.refl _ _ _) HZ.out).1, (hfin z (Kept.refl _ _ _) HZ.out).2⟩
  · have hsz : Srt z mid b := hz2.sub (by omega) (Nat.le_refl _)
    have HZ := show Hid _ from hsz
    clear hrec hr ho hz hz2 hfin hsz
    go_wp2_with fail
    go_end0
    obtain ⟨hr, ho, hfin⟩ := H.out
    exact ⟨rfl, ho, z, hr, (hfin z (Kept.refl _ _ _) HZ.out).1, (hfin z (Kept.refl _ _ _) HZ.out).2⟩

set_option maxRecDepth 100000 in
set_option maxHeartbeats 1000000 in
theorem tC41 (g m n c a mm b : Nat) (x : Nat → Ent) (w : World) (W : World) (mid s e : Nat) (y : Nat → Ent) (hrec : ∀ (a' m' b' : Nat) (x' : Nat → Ent) (w' : World), a' < m' → m' < b' → b' ≤ n → b' - a' < b - a → Row w' g m n x' → Srt x' a' m' → Srt x' m' b' → Calls Yba.prog 34 #[.slice (some ⟨g, 0, none⟩) n c, .int .i64 (a' : Nat), .int .i64 (m' : Nat), .int .i64 (b' : Nat), fn11] w' fun e w'' => e = .returned (.tuple #[]) ∧ Only g w' w'' ∧ ∃ y, Row w'' g m n y ∧ Kept x' y a' b' ∧ Srt y a' b')
    (hr : Row W g m n y) (ho : Only g w W) (hb : b ≤ n) (c0 : a < mid) (c1 : mid ≤ e) (c2 : e ≤ b) (c3 : a ≤ s) (c4 : s ≤ mid) (c5 : mid < b) (hsp : Split x y a mm b mid s e)
    (u5 u6 u7 u8 u9 u10 u11 u12 u13 u14 u15 u16 u17 u19 u21 u22 u23 u25 u26 u27 u28 u29 u30 u31 u32 u33 u34 u35 u36 u37 u38 u39 u40 u41 u42 u43 u44 u45 u46 u47 u48 u49 u50 u51 u52 u53 u54 u55 u56 u57 u58 u59 u60 u61 u62 u63 u64 u65 u66 u67 u68 u69 u70 u71 u72 u73 u74 u75 u76 u77 u78 u79 u80 u81 u82 u83 u84 u85 u86 u87 u88 u89 u90 u91 u92 u93 u94 u95 u96 u97 u98 u99 u100 u101 u102 u103 u104 u105 u106 u107 u108 u109 u110 u111 u112 u113 u114 u115 u116 u117 u118 u119 u120 u121 u122 u123 u124 u125 u126 u127 u128 u129 u130 u131 u132 u133 u134 u135 u136 u137 u138 u139 u140 u141 u142 u143 u144 u145 u146 u147 u148 u149 u150 u151 u152 u153 u154 u155 u156 u157 u158 u159 u160 u161 u162 u163 u164 u165 u166 u167 u168 u169 u170 u171 u172 u173 u174 u175 u176 u177 u178 u179 u180 u181 u182 u183 u184 u185 u186 u187 u188 u189 u190 u191 u192 u193 u194 u195 u196 u197 u198 u199 u200 u201 u202 u203 u204 u205 u206 u207 u208 u209 u210 u211 u212 u213 u214 u215 u216 u217 u218 u219 : Value) :
    Code.wp Yba.prog (chain2 41 (Yba.f34.body.getD .skip)) (bodyPost Yba.prog Yba.f34 fun e w' => e = .returned (.tuple #[]) ∧ Only g w w' ∧ ∃ y, Row w' g m n y ∧ Kept x y a b ∧ Srt y a b)
      ⟨#[.slice (some ⟨g, 0, none⟩) n c, .int .i64 (a : Nat), .int .i64 (mm : Nat), .int .i64 (b : Nat), .func (.func 11) #[] #[], u5, u6, u7, u8, u9, u10, u11, u12, u13, u14, u15, u16, u17, .int .i64 (mid : Nat), u19, .int .i64 (s : Nat), u21, u22, u23, .int .i64 (e : Nat), u25, u26, u27, u28, u29, u30, u31, u32, u33, u34, u35, u36, u37, u38, u39, u40, u41, u42, u43, u44, u45, u46, u47, u48, u49, u50, u51, u52, u53, u54, u55, u56, u57, u58, u59, u60, u61, u62, u63, u64, u65, u66, u67, u68, u69, u70, u71, u72, u73, u74, u75, u76, u77, u78, u79, u80, u81, u82, u83, u84, u85, u86, u87, u88, u89, u90, u91, u92, u93, u94, u95, u96, u97, u98, u99, u100, u101, u102, u103, u104, u105, u106, u107, u108, u109, u110, u111, u112, u113, u114, u115, u116, u117, u118, u119, u120, u121, u122, u123, u124, u125, u126, u127, u128, u129, u130, u131, u132, u133, u134, u135, u136, u137, u138, u139, u140, u141, u142, u143, u144, u145, u146, u147, u148, u149, u150, u151, u152, u153, u154, u155, u156, u157, u158, u159, u160, u161, u162, u163, u164, u165, u166, u167, u168, u169, u170, u171, u172, u173, u174, u175, u176, u177, u178, u179, u180, u181, u182, u183, u184, u185, u186, u187, u188, u189, u190, u191, u192, u193, u194, u195, u196, u197, u198, u199, u200, u201, u202, u203, u204, u205, u206, u207, u208, u209, u210, u211, u212, u213, u214, u215, u216, u217, u218, u219], []⟩ W := by
  conv => arg 2; whnf
  have HREC := show Hid _ from hrec
  have H := show Hid _ from And.intro hr (And.intro ho (And.intro hb (And.intro c0 (And.intro c1 (And.intro c2 (And.intro c5 hsp))))))
  by_cases h1 : a < s
  · by_cases h2 : s < mid
    · have hc := hrec a s mid y W h1 h2 (by omega) (by omega) hr hsp.s1 hsp.s2
      have HC := show Hid _ from hc
      unfold fn11 at HC
      clear hrec hr ho hsp hc hb c0 c1 c2 c3 c4 c5
      go_upto_region 41 with (fail)
      rename_i K3 hK3 K4 hK4
      have HK3 := show Hid _ from hK3
      clear hK3
      go_wp2_with fail
      refine Calls.mono HC.out ?_
      rintro e w' ⟨rfl, ho', v, hv, hk, hs⟩
      dsimp only
      go_wp2_with fail
      refine HK3.out _ _ ?_
      obtain ⟨hr, ho, hb, c0, c1, c2, c5, hsp⟩ := H.out
      apply tC43 g m n c a mm b x w w' mid _ v HREC.out hv (Only.trans ho ho') hb c0 c1 c2 (hsp.s3.congr fun t t1 t2 => hk.1 t (by omega)) (hsp.s4.congr fun t t1 t2 => hk.1 t (by omega)) (fun v' k1 k2 => Split.done hsp (by omega) (by omega) hk hs k1 k2)
    · have hsz : Srt y a mid := hsp.s1.sub (Nat.le_refl _) (by omega)
      have HZ := show Hid _ from hsz
      clear hrec hr ho hsp hsz hb c0 c1 c2 c3 c4 c5
      go_upto_region 41 with (fail)
      rename_i K3 hK3 K4 hK4
      have HK3 := show Hid _ from hK3
      clear hK3
      go_wp2_with fail
      refine HK3.out _ _ ?_
      obtain ⟨hr, ho, hb, c0, c1, c2, c5, hsp⟩ := H.out
      apply tC43 g m n c a mm b x w W mid e y HREC.out hr ho hb c0 c1 c2 hsp.s3 hsp.s4 (fun v' k1 k2 => Split.done hsp (by omega) (by omega) (Kept.refl _ _ _) HZ.out k1 k2)
  · have hsz : Srt y a mid := hsp.s2.sub (by omega) (Nat.le_refl _)
    have HZ := show Hid _ from hsz
    clear hrec hr ho hsp hsz hb c0 c1 c2 c3 c4 c5
    go_upto_region 41 with (fail)
    rename_i K3 hK3 K4 hK4
    have HK3 := show Hid _ from hK3
    clear hK3
    go_wp2_with fail
    refine HK3.out _ _ ?_
    obtain ⟨hr, ho, hb, c0, c1, c2, c5, hsp⟩ := H.out
    apply tC43 g m n c a mm b x w W mid e y HREC.out hr ho hb c0 c1 c2 hsp.s3 hsp.s4 (fun v' k1 k2 => Split.done hsp (by omega) (by omega) (Kept.refl _ _ _) HZ.out k1 k2)

theorem rot_left {x : Nat → Ent} {mm e : Nat} (h : mm ≤ e) : ∀ t, x t = rot x mm mm e t := fun t => by
  unfold rot
  by_cases c : mm ≤ t ∧ t < mm + (e - mm)
  · rw [if_pos c]; congr 1; omega
  · rw [if_neg c, if_neg (by omega)]
theorem rot_right {x : Nat → Ent} {s mm : Nat} (h : s ≤ mm) : ∀ t, x t = rot x s mm mm t := fun t => by
  unfold rot
  rw [if_neg (by omega)]
  by_cases c : s + (mm - mm) ≤ t ∧ t < mm
  · rw [if_pos c]; congr 1; omega
  · rw [if_neg c]

set_option maxRecDepth 100000 in
set_option maxHeartbeats 1000000 in
theorem tC38 (g m n c a mm b : Nat) (x : Nat → Ent) (w : World) (W : World) (mid nn s : Nat) (hrec : ∀ (a' m' b' : Nat) (x' : Nat → Ent) (w' : World), a' < m' → m' < b' → b' ≤ n → b' - a' < b - a → Row w' g m n x' → Srt x' a' m' → Srt x' m' b' → Calls Yba.prog 34 #[.slice (some ⟨g, 0, none⟩) n c, .int .i64 (a' : Nat), .int .i64 (m' : Nat), .int .i64 (b' : Nat), fn11] w' fun e w'' => e = .returned (.tuple #[]) ∧ Only g w' w'' ∧ ∃ y, Row w'' g m n y ∧ Kept x' y a' b' ∧ Srt y a' b')
    (hn : n ≤ 1048576) (hr : Row W g m n x) (ho : Only g w W) (hb : b ≤ n) (c0 : a < mid) (c5 : mid < b) (hnn : nn = mid + mm) (a1 : a ≤ s) (a2 : s ≤ mm) (a3 : mm + s ≤ nn) (a4 : nn ≤ b + s) (am : a < mm) (mb : mm < b)
    (h1 : Srt x a mm) (h2 : Srt x mm b) (H1 : nn - s = b ∨ s = a ∨ lt (x (nn - s)) (x (s - 1)) = false) (H2 : s = mm ∨ nn - s = mm ∨ lt (x (nn - s - 1)) (x s) = true)
    (u5 u6 u7 u8 u9 u10 u11 u12 u13 u14 u15 u16 u17 u21 u22 u23 u24 u25 u26 u27 u28 u29 u30 u31 u32 u33 u34 u35 u36 u37 u38 u39 u40 u41 u42 u43 u44 u45 u46 u47 u48 u49 u50 u51 u52 u53 u54 u55 u56 u57 u58 u59 u60 u61 u62 u63 u64 u65 u66 u67 u68 u69 u70 u71 u72 u73 u74 u75 u76 u77 u78 u79 u80 u81 u82 u83 u84 u85 u86 u87 u88 u89 u90 u91 u92 u93 u94 u95 u96 u97 u98 u99 u100 u101 u102 u103 u104 u105 u106 u107 u108 u109 u110 u111 u112 u113 u114 u115 u116 u117 u118 u119 u120 u121 u122 u123 u124 u125 u126 u127 u128 u129 u130 u131 u132 u133 u134 u135 u136 u137 u138 u139 u140 u141 u142 u143 u144 u145 u146 u147 u148 u149 u150 u151 u152 u153 u154 u155 u156 u157 u158 u159 u160 u161 u162 u163 u164 u165 u166 u167 u168 u169 u170 u171 u172 u173 u174 u175 u176 u177 u178 u179 u180 u181 u182 u183 u184 u185 u186 u187 u188 u189 u190 u191 u192 u193 u194 u195 u196 u197 u198 u199 u200 u201 u202 u203 u204 u205 u206 u207 u208 u209 u210 u211 u212 u213 u214 u215 u216 u217 u218 u219 : Value) :
    Code.wp Yba.prog (chain2 38 (Yba.f34.body.getD .skip)) (bodyPost Yba.prog Yba.f34 fun e w' => e = .returned (.tuple #[]) ∧ Only g w w' ∧ ∃ y, Row w' g m n y ∧ Kept x y a b ∧ Srt y a b)
      ⟨#[.slice (some ⟨g, 0, none⟩) n c, .int .i64 (a : Nat), .int .i64 (mm : Nat), .int .i64 (b : Nat), .func (.func 11) #[] #[], u5, u6, u7, u8, u9, u10, u11, u12, u13, u14, u15, u16, u17, .int .i64 (mid : Nat), .int .i64 (nn : Nat), .int .i64 (s : Nat), u21, u22, u23, u24, u25, u26, u27, u28, u29, u30, u31, u32, u33, u34, u35, u36, u37, u38, u39, u40, u41, u42, u43, u44, u45, u46, u47, u48, u49, u50, u51, u52, u53, u54, u55, u56, u57, u58, u59, u60, u61, u62, u63, u64, u65, u66, u67, u68, u69, u70, u71, u72, u73, u74, u75, u76, u77, u78, u79, u80, u81, u82, u83, u84, u85, u86, u87, u88, u89, u90, u91, u92, u93, u94, u95, u96, u97, u98, u99, u100, u101, u102, u103, u104, u105, u106, u107, u108, u109, u110, u111, u112, u113, u114, u115, u116, u117, u118, u119, u120, u121, u122, u123, u124, u125, u126, u127, u128, u129, u130, u131, u132, u133, u134, u135, u136, u137, u138, u139, u140, u141, u142, u143, u144, u145, u146, u147, u148, u149, u150, u151, u152, u153, u154, u155, u156, u157, u158, u159, u160, u161, u162, u163, u164, u165, u166, u167, u168, u169, u170, u171, u172, u173, u174, u175, u176, u177, u178, u179, u180, u181, u182, u183, u184, u185, u186, u187, u188, u189, u190, u191, u192, u193, u194, u195, u196, u197, u198, u199, u200, u201, u202, u203, u204, u205, u206, u207, u208, u209, u210, u211, u212, u213, u214, u215, u216, u217, u218, u219], []⟩ W := by
  conv => arg 2; whnf
  obtain ⟨e, he⟩ : ∃ e, e = nn - s := ⟨_, rfl⟩
  rw [← he] at H1 H2
  have hsp := split_rot (e := e) (mid := mid) h1 h2 a1 a2 (by omega) (by omega) (by omega) H1 H2
  have ee : wrap64 ((nn : Int) - (s : Int)) = (e : Int) := by rw [sub64' (by omega) (by omega), he]
  have HE := show Hid _ from ee
  clear ee
  have HREC := show Hid _ from hrec
  have k1 : mid ≤ e := by omega
  have k2 : e ≤ b := by omega
  have k3 : s ≤ mid := by omega
  have H := show Hid _ from And.intro ho (And.intro hb (And.intro c0 (And.intro c5 (And.intro a1 (And.intro k1 (And.intro k2 (And.intro k3 (And.intro hsp hr))))))))
  by_cases q1 : s < mm
  · by_cases q2 : mm < e
    · have hc := rotate_any g m n c s mm e x W hn hr q1 q2 (by omega)
      have HC := show Hid _ from hc
      unfold fn11 at HC
      clear hrec hr ho hsp hc hb c0 c5 a1 a2 a3 a4 k1 k2 k3 hn hnn he h1 h2 H1 H2 am mb
      have ee := HE.out
      go_upto_region 39 with (fail)
      rename_i K3 hK3 K4 hK4
      have HK3 := show Hid _ from hK3
      clear hK3
      go_wp2_with fail
      refine Calls.mono HC.out ?_
      rintro e' w' ⟨rfl, hv, ho'⟩
      dsimp only
      go_wp2_with fail
      refine HK3.out _ _ ?_
      clear ee
      obtain ⟨ho, hb, c0, c5, a1, k1, k2, k3, hsp, hr⟩ := H.out
      try rw [HE.out]
      apply tC41 g m n c a mm b x w w' mid s e _ HREC.out hv (Only.trans ho ho') hb c0 k1 k2 a1 k3 c5 hsp
    · have hee : e = mm := by omega
      have hy : Row W g m n (rot x s mm e) := by rw [hee]; exact Row.eq hr (rot_right (by omega))
      have HY := show Hid _ from hy
      clear hrec hr ho hsp hy hb c0 c5 a1 a2 a3 a4 k1 k2 k3 hn hnn he h1 h2 H1 H2 hee am mb
      have ee := HE.out
      go_upto_region 39 with (fail)
      rename_i K3 hK3 K4 hK4
      have HK3 := show Hid _ from hK3
      clear hK3
      go_wp2_with fail
      refine HK3.out _ _ ?_
      clear ee
      obtain ⟨ho, hb, c0, c5, a1, k1, k2, k3, hsp, hr⟩ := H.out
      try rw [HE.out]
      apply tC41 g m n c a mm b x w W mid s e _ HREC.out HY.out ho hb c0 k1 k2 a1 k3 c5 hsp
  · have hss : s = mm := by omega
    have hy : Row W g m n (rot x s mm e) := by rw [hss]; exact Row.eq hr (rot_left (by omega))
    have HY := show Hid _ from hy
    clear hrec hr ho hsp hy hb c0 c5 a1 a2 a3 a4 k1 k2 k3 hn hnn he h1 h2 H1 H2 hss am mb
    have ee := HE.out
    go_upto_region 39 with (fail)
    rename_i K3 hK3 K4 hK4
    have HK3 := show Hid _ from hK3
    clear hK3
    go_wp2_with fail
    refine HK3.out _ _ ?_
    clear ee
    obtain ⟨ho, hb, c0, c5, a1, k1, k2, k3, hsp, hr⟩ := H.out
    try rw [HE.out]
    apply tC41 g m n c a mm b x w W mid s e _ HREC.out HY.out ho hb c0 k1 k2 a1 k3 c5 hsp
end Go.Proofs.Ybulkexnoq
