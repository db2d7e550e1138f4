import Derived.Test.YbulkexnoqRSymC
namespace Go.Proofs.Ybulkexnoq
open Go.RowKit
set_option linter.unusedVariables false
set_option linter.unusedSimpArgs false

theorem i64w (z : Int) : IntKind.i64.wrap z = wrap64 z := by
  unfold wrap64
  exact IntKind.wrap_i64 z
theorem pre64' {i : Nat} (h : 0 < i) (hn : i ≤ 4194304) : ∃ q : Nat, Hid (q = i - 1) ∧ wrap64 ((i : Int) - 1) = (q : Int) ∧ q < i := ⟨i - 1, show Hid _ from rfl, by rw [w64 (by omega) (by omega)]; omega, by omega⟩
theorem half_eq {i j h : Nat} (hs : i + j ≤ 4194304) (e : wrap64 (IntKind.u64.wrap (wrap64 ((i : Int) + (j : Int))) / 2) = (h : Int)) : h = (i + j) / 2 := by
  rw [half64 hs] at e
  omega
theorem dif64 {p h n : Nat} (h1 : h ≤ p) (h2 : p - h < n) (hp : p ≤ 4194304) : ∃ d : Nat, Hid (d = p - h) ∧ wrap64 ((p : Int) - (h : Int)) = (d : Int) ∧ d < n := ⟨p - h, show Hid _ from rfl, sub64' h1 hp, h2⟩

set_option maxRecDepth 100000 in
set_option maxHeartbeats 1000000 in
theorem tC32 (g m n c a mm b : Nat) (x : Nat → Ent) (w : World) (W : World) (mid nn s0 r0 : Nat) (hrec : ∀ (a' m' b' : Nat) (x' : Nat → Ent) (w' : World), a' < m' → m' < b' → b' ≤ n → b' - a' < b - a → Row w' g m n x' → Srt x' a' m' → Srt x' m' b' → Calls Yba.prog 34 #[.slice (some ⟨g, 0, none⟩) n c, .int .i64 (a' : Nat), .int .i64 (m' : Nat), .int .i64 (b' : Nat), fn11] w' fun e w'' => e = .returned (.tuple #[]) ∧ Only g w' w'' ∧ ∃ y, Row w'' g m n y ∧ Kept x' y a' b' ∧ Srt y a' b')
    (hn : n ≤ 1048576) (hr : Row W g m n x) (ho : Only g w W) (hb : b ≤ n) (c0 : a < mid) (c5 : mid < b) (hnn : nn = mid + mm) (am : a < mm) (mb : mm < b) (h1 : Srt x a mm) (h2 : Srt x mm b)
    (a1 : a ≤ s0) (a2 : s0 ≤ r0) (a3 : r0 ≤ mm) (a4 : nn ≤ b + s0) (a5 : mm + r0 ≤ nn) (i1 : nn - s0 = b ∨ s0 = a) (i2 : r0 = mm ∨ nn - r0 = mm)
    (u5 u6 u7 u8 u9 u10 u11 u12 u13 u14 u15 u16 u17 u22 u23 u24 u25 u26 u27 u28 u29 u30 u31 u32 u33 u34 u35 u36 u37 u38 u39 u40 u41 u42 u43 u44 u45 u46 u47 u48 u49 u50 u51 u52 u53 u54 u55 u56 u57 u58 u59 u60 u61 u62 u63 u64 u65 u66 u67 u68 u69 u70 u71 u72 u73 u74 u75 u76 u77 u78 u79 u80 u81 u82 u83 u84 u85 u86 u87 u88 u89 u90 u91 u92 u93 u94 u95 u96 u97 u98 u99 u100 u101 u102 u103 u104 u105 u106 u107 u108 u109 u110 u111 u112 u113 u114 u115 u116 u117 u118 u119 u120 u121 u122 u123 u124 u125 u126 u127 u128 u129 u130 u131 u132 u133 u134 u135 u136 u137 u138 u139 u140 u141 u142 u143 u144 u145 u146 u147 u148 u149 u150 u151 u152 u153 u154 u155 u156 u157 u158 u159 u160 u161 u162 u163 u164 u165 u166 u167 u168 u169 u170 u171 u172 u173 u174 u175 u176 u177 u178 u179 u180 u181 u182 u183 u184 u185 u186 u187 u188 u189 u190 u191 u192 u193 u194 u195 u196 u197 u198 u199 u200 u201 u202 u203 u204 u205 u206 u207 u208 u209 u210 u211 u212 u213 u214 u215 u216 u217 u218 u219 : Value) :
    Code.wp Yba.prog (chain2 32 (Yba.f34.body.getD .skip)) (bodyPost Yba.prog Yba.f34 fun e w' => e = .returned (.tuple #[]) ∧ Only g w w' ∧ ∃ y, Row w' g m n y ∧ Kept x y a b ∧ Srt y a b)
      ⟨#[.slice (some ⟨g, 0, none⟩) n c, .int .i64 (a : Nat), .int .i64 (mm : Nat), .int .i64 (b : Nat), .func (.func 11) #[] #[], u5, u6, u7, u8, u9, u10, u11, u12, u13, u14, u15, u16, u17, .int .i64 (mid : Nat), .int .i64 (nn : Nat), .int .i64 (s0 : Nat), .int .i64 (r0 : Nat), u22, u23, u24, u25, u26, u27, u28, u29, u30, u31, u32, u33, u34, u35, u36, u37, u38, u39, u40, u41, u42, u43, u44, u45, u46, u47, u48, u49, u50, u51, u52, u53, u54, u55, u56, u57, u58, u59, u60, u61, u62, u63, u64, u65, u66, u67, u68, u69, u70, u71, u72, u73, u74, u75, u76, u77, u78, u79, u80, u81, u82, u83, u84, u85, u86, u87, u88, u89, u90, u91, u92, u93, u94, u95, u96, u97, u98, u99, u100, u101, u102, u103, u104, u105, u106, u107, u108, u109, u110, u111, u112, u113, u114, u115, u116, u117, u118, u119, u120, u121, u122, u123, u124, u125, u126, u127, u128, u129, u130, u131, u132, u133, u134, u135, u136, u137, u138, u139, u140, u141, u142, u143, u144, u145, u146, u147, u148, u149, u150, u151, u152, u153, u154, u155, u156, u157, u158, u159, u160, u161, u162, u163, u164, u165, u166, u167, u168, u169, u170, u171, u172, u173, u174, u175, u176, u177, u178, u179, u180, u181, u182, u183, u184, u185, u186, u187, u188, u189, u190, u191, u192, u193, u194, u195, u196, u197, u198, u199, u200, u201, u202, u203, u204, u205, u206, u207, u208, u209, u210, u211, u212, u213, u214, u215, u216, u217, u218, u219], []⟩ W := by
  conv => arg 2; whnf
  obtain ⟨p, HP, ep, _⟩ := pre64' (i := nn) (by omega) (by omega)
  have HREC := show Hid _ from hrec
  have H := show Hid _ from And.intro hn (And.intro hb (And.intro c0 (And.intro c5 (And.intro hnn (And.intro am (And.intro mb (And.intro h1 (And.intro h2 (And.intro a1 (And.intro a2 (And.intro a3 (And.intro a4 (And.intro a5 (And.intro i1 i2))))))))))))))
  have HR := show Hid _ from hr
  have HO0 := show Hid _ from ho
  clear hrec hn hr ho hb c0 c5 hnn am mb h1 h2 a1 a2 a3 a4 a5 i1 i2
  go_wp2_with fail
  try rw [ep]
  clear ep
  go_loopg [20, 21] b (fun gh s20 s21 wr => ∃ s r : Nat, r - s ≤ gh ∧ s20 = .int .i64 s ∧ s21 = .int .i64 r ∧ Hid (s0 ≤ s ∧ s ≤ r ∧ r ≤ r0 ∧ (s = s0 ∨ lt (x (nn - s)) (x (s - 1)) = false) ∧ (r = r0 ∨ lt (x (nn - 1 - r)) (x r) = true)) ∧ Hid (Row wr g m n x) ∧ Hid (Only g w wr))
  case atStart =>
    have hH := H.out
    exact ⟨s0, r0, by omega, rfl, rfl, show Hid _ from ⟨Nat.le_refl _, by omega, Nat.le_refl _, .inl rfl, .inl rfl⟩, HR, HO0⟩
  case round =>
    clear HR HO0
    rename_i Kx hKx J1 J2 J3 J4
    have HK := show Hid _ from hKx
    clear hKx
    obtain ⟨i, j, hg, rfl, rfl, HB, HRW, HO⟩ := hrel
    have hA := H.out
    have hB := HB.out
    have hp := HP.out
    by_cases hlt : i < j
    · have hjn : j ≤ n := by omega
      obtain ⟨h, eh, eh1, hih, hhj, hh⟩ := mid64 hlt hjn hA.1
      have HE := show Hid _ from And.intro eh eh1
      clear eh eh1
      obtain ⟨d, HD, ed, hd⟩ := dif64 (p := p) (h := h) (n := n) (by omega) (by omega) (by omega)
      obtain ⟨a0, a1, a2⟩ := Row.cells HRW.out hd
      obtain ⟨b0, b1, b2⟩ := Row.cells HRW.out hh
      have HH := show Hid _ from And.intro hg (And.intro hih hhj)
      have hgl : g < wr.heap.size := Row.lt HRW.out
      clear hA hB hg hih hhj hp
      obtain ⟨eh, eh1⟩ := HE.out
      have ed' : IntKind.i64.wrap ((p : Int) - (h : Int)) = (d : Int) := (i64w _).trans ed
      cases hl : lt (x d) (x h)
      · have hl' : decide (cmp (x d).1 (x h).1 < 0) = false := hl
        go_wp2_with fail
        rw [eh]
        go_region_held3 (fun V => V.cell? ⟨g, d * 3, none⟩ = some (.string (x d).1) ∧ V.cell? ⟨g, d * 3 + 1, none⟩ = some (.int .i64 (x d).2.1) ∧ V.cell? ⟨g, d * 3 + 2, none⟩ = some (.int .u64 (x d).2.2) ∧ V.cell? ⟨g, h * 3, none⟩ = some (.string (x h).1) ∧ V.cell? ⟨g, h * 3 + 1, none⟩ = some (.int .i64 (x h).2.1) ∧ V.cell? ⟨g, h * 3 + 2, none⟩ = some (.int .u64 (x h).2.2)) (go_keep) (first
            | (go_at_call 11; refine Calls.mono (cmp11 (x d) (x h) _) ?_; rintro e w1 ⟨rfl, hb1⟩; have hr1 := Row.below (Row.drew HRW.out) hb1; obtain ⟨p0, p1, p2⟩ := hr1.cells hd; obtain ⟨q0, q1, q2⟩ := hr1.cells hh))
        go_wp2_with fail
        clear eh eh1 ed ed'
        go_roundg (j - (h + 1))
        case measure => have := HH.out; omega
        case rel =>
          have hB := HB.out
          have hH := HH.out
          have hd := HD.out
          have hp := HP.out
          have hl2 : lt (x (nn - (h + 1))) (x (h + 1 - 1)) = false := by
            rw [show nn - (h + 1) = d by omega]
            exact hl
          exact ⟨h + 1, j, Nat.le_refl _, by first | rfl | (rw [HE.out.2]) | (rw [HE.out.1, HE.out.2]), rfl, show Hid _ from ⟨by omega, by omega, by omega, .inr hl2, hB.2.2.2.2⟩, show Hid _ from hr1, show Hid _ from Only.trans (Only.drew HO.out) (Only.below hb1 hgl)⟩
      · have hl' : decide (cmp (x d).1 (x h).1 < 0) = true := hl
        go_wp2_with fail
        rw [eh]
        go_region_held3 (fun V => V.cell? ⟨g, d * 3, none⟩ = some (.string (x d).1) ∧ V.cell? ⟨g, d * 3 + 1, none⟩ = some (.int .i64 (x d).2.1) ∧ V.cell? ⟨g, d * 3 + 2, none⟩ = some (.int .u64 (x d).2.2) ∧ V.cell? ⟨g, h * 3, none⟩ = some (.string (x h).1) ∧ V.cell? ⟨g, h * 3 + 1, none⟩ = some (.int .i64 (x h).2.1) ∧ V.cell? ⟨g, h * 3 + 2, none⟩ = some (.int .u64 (x h).2.2)) (go_keep) (first
            | (go_at_call 11; refine Calls.mono (cmp11 (x d) (x h) _) ?_; rintro e w1 ⟨rfl, hb1⟩; have hr1 := Row.below (Row.drew HRW.out) hb1; obtain ⟨p0, p1, p2⟩ := hr1.cells hd; obtain ⟨q0, q1, q2⟩ := hr1.cells hh))
        go_wp2_with fail
        clear eh eh1 ed ed'
        go_roundg (h - i)
        case measure => have := HH.out; omega
        case rel =>
          have hB := HB.out
          have hH := HH.out
          have hd := HD.out
          have hp := HP.out
          have hl2 : lt (x (nn - 1 - h)) (x h) = true := by
            rw [show nn - 1 - h = d by omega]
            exact hl
          exact ⟨i, h, Nat.le_refl _, rfl, rfl, show Hid _ from ⟨hB.1, by omega, by omega, hB.2.2.2.1, .inr hl2⟩, show Hid _ from hr1, show Hid _ from Only.trans (Only.drew HO.out) (Only.below hb1 hgl)⟩
    · obtain rfl : i = j := by omega
      clear hA hB hg hp
      go_wp2_with fail
      refine HK.out _ _ ?_
      have hA := H.out
      have hB := HB.out
      obtain ⟨hn, hb, c0, c5, hnn, am, mb, h1, h2, a1, a2, a3, a4, a5, i1, i2⟩ := hA
      obtain ⟨d1, d2, d3, d4, d5⟩ := hB
      have H1 : nn - i = b ∨ i = a ∨ lt (x (nn - i)) (x (i - 1)) = false := by
        rcases d4 with rfl | d4
        · rcases i1 with i1 | i1
          · exact .inl i1
          · exact .inr (.inl i1)
        · exact .inr (.inr d4)
      have H2 : i = mm ∨ nn - i = mm ∨ lt (x (nn - i - 1)) (x i) = true := by
        rcases d5 with rfl | d5
        · rcases i2 with i2 | i2
          · exact .inl i2
          · exact .inr (.inl i2)
        · rw [show nn - i - 1 = nn - 1 - i by omega]
          exact .inr (.inr d5)
      apply tC38 g m n c a mm b x w wr mid nn i HREC.out hn HRW.out HO.out hb c0 c5 hnn (by omega) (by omega) (by omega) (by omega) am mb h1 h2 H1 H2

set_option maxRecDepth 100000 in
set_option maxHeartbeats 1000000 in
theorem symC (g m n c a mm b : Nat) (x : Nat → Ent) (w : World) (hrec : ∀ (a' m' b' : Nat) (x' : Nat → Ent) (w' : World), a' < m' → m' < b' → b' ≤ n → b' - a' < b - a → Row w' g m n x' → Srt x' a' m' → Srt x' m' b' → Calls Yba.prog 34 #[.slice (some ⟨g, 0, none⟩) n c, .int .i64 (a' : Nat), .int .i64 (m' : Nat), .int .i64 (b' : Nat), fn11] w' fun e w'' => e = .returned (.tuple #[]) ∧ Only g w' w'' ∧ ∃ y, Row w'' g m n y ∧ Kept x' y a' b' ∧ Srt y a' b')
    (hn : n ≤ 1048576) (hr : Row w g m n x) (am : a < mm) (mb : mm < b) (hb : b ≤ n) (h1 : Srt x a mm) (h2 : Srt x mm b) (q1 : mm - a ≠ 1) (q2 : b - mm ≠ 1) :
    Calls Yba.prog 34 #[.slice (some ⟨g, 0, none⟩) n c, .int .i64 a, .int .i64 mm, .int .i64 b, fn11] w fun e w' => e = .returned (.tuple #[]) ∧ Only g w w' ∧ ∃ y, Row w' g m n y ∧ Kept x y a b ∧ Srt y a b := by
  have e0 : (wrap64 ((mm : Int) - (a : Int)) == 1) = false := by rw [sub64 (by omega) (by omega)]; simp; omega
  have e1 : (wrap64 ((b : Int) - (mm : Int)) == 1) = false := by rw [sub64 (by omega) (by omega)]; simp; omega
  have HE01 := show Hid _ from And.intro e0 e1
  clear e0 e1
  obtain ⟨mid, eh, _, g1, g2, g3⟩ := mid64 (i := a) (j := b) (n := n) (by omega) hb hn
  have hmid := half_eq (i := a) (j := b) (by omega) eh
  have HEH := show Hid _ from eh
  clear eh
  have hmid2 : a < mid := by omega
  have en : wrap64 ((mid : Int) + (mm : Int)) = ((mid + mm : Nat) : Int) := add64 (by omega)
  obtain ⟨nn, hnn⟩ : ∃ nn, nn = mid + mm := ⟨_, rfl⟩
  rw [← hnn] at en
  have HEN := show Hid _ from en
  clear en
  have HREC := show Hid _ from hrec
  by_cases hgt : mid < mm
  · have es : wrap64 ((nn : Int) - (b : Int)) = ((nn - b : Nat) : Int) := sub64' (by omega) (by omega)
    have HES := show Hid _ from es
    clear es
    have H := show Hid _ from And.intro hn (And.intro hr (And.intro am (And.intro mb (And.intro hb (And.intro h1 (And.intro h2 (And.intro hmid (And.intro hmid2 (And.intro hnn (And.intro g1 g2))))))))))
    unfold fn11
    clear hrec hn hr am mb hb h1 h2 q1 q2 hmid hmid2 hnn g1 g2 g3
    obtain ⟨e0, e1⟩ := HE01.out
    have eh := HEH.out
    have en := HEN.out
    have es := HES.out
    go_enter Yba.func34, Yba.ntmps34
    go_upto_region 27 with (fail)
    rename_i K3 hK3 K4 hK4
    have HK3 := show Hid _ from hK3
    clear hK3
    go_wp2_with fail
    refine HK3.out _ _ ?_
    try rw [eh]
    try rw [en]
    try rw [es]
    clear e0 e1 eh en es
    obtain ⟨hn, hr, am, mb, hb, h1, h2, hmid, hmid2, hnn, g1, g2⟩ := H.out
    apply tC32 g m n c a mm b x w w mid nn (nn - b) mid HREC.out hn hr (Only.refl _ _) hb hmid2 g2 hnn am mb h1 h2 (by omega) (by omega) (by omega) (by omega) (by omega) (.inl (by omega)) (.inr (by omega))
  · have H := show Hid _ from And.intro hn (And.intro hr (And.intro am (And.intro mb (And.intro hb (And.intro h1 (And.intro h2 (And.intro hmid (And.intro hmid2 (And.intro hnn (And.intro g1 g2))))))))))
    unfold fn11
    clear hrec hn hr am mb hb h1 h2 q1 q2 hmid hmid2 hnn g1 g2 g3
    obtain ⟨e0, e1⟩ := HE01.out
    have eh := HEH.out
    have en := HEN.out
    go_enter Yba.func34, Yba.ntmps34
    go_upto_region 27 with (fail)
    rename_i K3 hK3 K4 hK4
    have HK3 := show Hid _ from hK3
    clear hK3
    go_wp2_with fail
    refine HK3.out _ _ ?_
    try rw [eh]
    try rw [en]
    clear e0 e1 eh en
    obtain ⟨hn, hr, am, mb, hb, h1, h2, hmid, hmid2, hnn, g1, g2⟩ := H.out
    apply tC32 g m n c a mm b x w w mid nn a mm HREC.out hn hr (Only.refl _ _) hb hmid2 g2 hnn am mb h1 h2 (by omega) (by omega) (by omega) (by omega) (by omega) (.inr rfl) (.inl rfl)

theorem sym_any (g m n c : Nat) (hn : n ≤ 1048576) : ∀ (N a mm b : Nat) (x : Nat → Ent) (w : World), b - a ≤ N → a < mm → mm < b → b ≤ n → Row w g m n x → Srt x a mm → Srt x mm b →
    Calls Yba.prog 34 #[.slice (some ⟨g, 0, none⟩) n c, .int .i64 a, .int .i64 mm, .int .i64 b, fn11] w fun e w' => e = .returned (.tuple #[]) ∧ Only g w w' ∧ ∃ y, Row w' g m n y ∧ Kept x y a b ∧ Srt y a b
  | 0, a, mm, b, x, w, h, am, mb, hb, hr, h1, h2 => by omega
  | N + 1, a, mm, b, x, w, h, am, mb, hb, hr, h1, h2 => by
    by_cases q1 : mm - a = 1
    · obtain rfl : mm = a + 1 := by omega
      exact symA g m n c a b x w hn hr mb hb h2
    · by_cases q2 : b - mm = 1
      · obtain rfl : b = mm + 1 := by omega
        exact symB g m n c a mm x w hn hr (by omega) hb h1
      · exact symC g m n c a mm b x w (fun a' m' b' x' w' k1 k2 k3 k4 k5 k6 k7 => sym_any g m n c hn N a' m' b' x' w' (by omega) k1 k2 k3 k5 k6 k7) hn hr am mb hb h1 h2 q1 q2
end Go.Proofs.Ybulkexnoq
