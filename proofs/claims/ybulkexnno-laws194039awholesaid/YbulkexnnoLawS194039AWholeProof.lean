import Derived.Test.YbulkexnnoLaw
import Derived.ShutString
namespace Go.Proofs.Ybulkexnno
open Go.ChangeShapes Go.WideShapes Go.ChangeAt Go.RowKit Go.Deep
set_option linter.unusedVariables false

def u8of (v : Value) : Nat := (intOf v).toNat % 256
theorem u8of_lt (v : Value) : u8of v < 256 := Nat.mod_lt _ (by omega)
theorem u8of_int {n : Int} (h : (Lit.int .u8 n).wf = true) : Value.int .u8 (u8of (.int .u8 n) : Nat) = .int .u8 n := by
  have hb := bounds_u8 h
  simp only [u8of, intOf]
  congr 1
  omega
def boolOf : Value → Bool | .bool b => b | _ => false

theorem spot_none {w : World} {a : Addr} {v : Value} (h : w.cell? a = some v) : ∃ b o, a = ⟨b, o, none⟩ := by
  obtain ⟨b, o, s⟩ := a
  have := World.cell?_spot h
  simp only at this
  subst this
  exact ⟨b, o, rfl⟩

section
variable {H : Type} {enc : TypeId × Value → H} {W : World}

theorem view_bytes {v : Value} {a : Option Addr} {len cap fuel : Nat} {x : DataW H × List MemPlace} (hf : DataW.trod enc Yba.prog W 0 (fun _ => true) true fuel 23 (Value.slice a len cap).cells.toList = some x) :
    len ≤ maxLen ∧ ∃ f : Nat → Nat, (∀ i, f i < 256) ∧ Sees W a len (fun i => .int .u8 (f i)) := by
  rcases open_ints Yba.underlying23 Yba.underlying5 (by kernel_rfl) hf with ⟨hcs, _⟩ | ⟨y, l, c, zs, hcs, _, hl, hm, hz, _, hcell, hwz⟩
  · simp [Value.cells] at hcs
    obtain ⟨rfl, rfl, rfl⟩ := hcs
    exact ⟨by decide, fun _ => 0, fun _ => Nat.zero_lt_succ _, .inl rfl⟩
  · simp [Value.cells] at hcs
    obtain ⟨rfl, rfl, rfl⟩ := hcs
    refine ⟨Nat.le_trans hl hm, fun i => u8of (.int .u8 (zs.getD i 0)), fun i => u8of_lt _, ?_⟩
    rcases Nat.eq_zero_or_pos len with h0 | hp
    · exact .inl h0
    · simp at hz
      have hc0 := hcell 0 (by omega)
      simp only [Addr.add, if_true] at hc0
      obtain ⟨b, o, rfl⟩ := spot_none hc0
      refine .inr ⟨b, o, rfl, fun i hi => ?_⟩
      have := hcell i (by omega)
      rw [add_plain] at this
      rw [this]
      have hw : (Lit.int .u8 (zs.getD i 0)).wf = true := hwz _ (by
        rw [List.getD_eq_getElem?_getD, List.getElem?_eq_getElem (by omega)]; simp)
      exact congrArg some (u8of_int hw).symm

theorem view_rows {a : Option Addr} {len cap fuel : Nat} {x : DataW H × List MemPlace} (hf : DataW.trod enc Yba.prog W 0 (fun _ => true) true fuel 24 (Value.slice a len cap).cells.toList = some x) :
    len ≤ maxLen ∧ ∃ (Ar : Nat → Option Addr) (Ln Cp : Nat → Nat) (Z : Nat → Nat → Nat), (∀ c i, Z c i < 256) ∧ (∀ c, Ln c ≤ 9223372036854775807) ∧ SeesS W a len Ar Ln Cp Z := by
  rcases open_int_rows Yba.underlying24 Yba.underlying23 Yba.underlying5 (by kernel_rfl) (by kernel_rfl) hf with ⟨hcs, _⟩ | ⟨y, l, c, A, L, C, Z, hcs, _, hl, hm, _, hrow⟩
  · simp [Value.cells] at hcs
    obtain ⟨rfl, rfl, rfl⟩ := hcs
    exact ⟨by decide, fun _ => none, fun _ => 0, fun _ => 0, fun _ _ => 0, fun _ _ => Nat.zero_lt_succ _, fun _ => Nat.zero_le _, .inl rfl⟩
  · simp [Value.cells] at hcs
    obtain ⟨rfl, rfl, rfl⟩ := hcs
    refine ⟨Nat.le_trans hl hm, A, fun c => min (L c) 9223372036854775807, C, fun c i => u8of (.int .u8 ((Z c).getD i 0)), fun _ _ => u8of_lt _, fun _ => Nat.min_le_right _ _, ?_⟩
    rcases Nat.eq_zero_or_pos len with h0 | hp
    · exact .inl h0
    · have hc0 := (hrow 0 (by omega)).1
      simp only [Addr.add, if_true] at hc0
      obtain ⟨b, o, rfl⟩ := spot_none hc0
      refine .inr ⟨b, o, rfl, fun c hc => ?_⟩
      obtain ⟨g1, g2, g3, g4, g5, g6, g7⟩ := hrow c (by omega)
      have hmin : min (L c) 9223372036854775807 = L c := by simp only [maxLen] at g3; omega
      rw [add_plain] at g1
      refine ⟨by rw [g1]; show _ = some (Value.slice _ (min (L c) 9223372036854775807) _); rw [hmin], ?_⟩
      simp only [hmin]
      rcases Nat.eq_zero_or_pos (L c) with h0 | hp'
      · exact .inl h0
      · cases hA : A c with
        | none => have := g6 hA; omega
        | some a' =>
          have h7 := (g7 a' hA).2
          have hc1 := h7 0 (by omega)
          simp only [Addr.add, if_true] at hc1
          obtain ⟨b', o', rfl⟩ := spot_none hc1
          refine .inr ⟨b', o', rfl, fun i hi => ?_⟩
          have := h7 i (by omega)
          rw [add_plain] at this
          rw [this]
          have hw : (Lit.int .u8 ((Z c).getD i 0)).wf = true := g5 _ (by
            rw [List.getD_eq_getElem?_getD, List.getElem?_eq_getElem (by omega)]; simp)
          exact congrArg some (u8of_int hw).symm

theorem view_pairs {a : Option Addr} {len cap fuel : Nat} {x : DataW H × List MemPlace} (hf : DataW.trod enc Yba.prog W 0 (fun _ => true) true fuel 22 (Value.slice a len cap).cells.toList = some x) :
    len ≤ maxLen ∧ ∃ (f : Nat → Nat) (g : Nat → Bool), (∀ i, f i < 256) ∧ SeesT W a len f g := by
  rcases open_slice_pairs Yba.underlying22 Yba.underlying33 (by kernel_rfl) rfl rfl (by kernel_rfl) (by kernel_rfl) hf with ⟨hcs, _⟩ | ⟨y, l, c, m, n, V0, V1, D0, D1, P0, P1, hcs, _, hl, hm, hmm, _, hrow⟩
  · simp [Value.cells] at hcs
    obtain ⟨rfl, rfl, rfl⟩ := hcs
    exact ⟨by decide, fun _ => 0, fun _ => false, fun _ => Nat.zero_lt_succ _, .inl rfl⟩
  · simp [Value.cells] at hcs
    obtain ⟨rfl, rfl, rfl⟩ := hcs
    simp at hmm
    refine ⟨Nat.le_trans hl hm, fun i => u8of (V0 i), fun i => boolOf (V1 i), fun i => u8of_lt _, ?_⟩
    rcases Nat.eq_zero_or_pos len with h0 | hp
    · exact .inl h0
    · have hc0 := (hrow 0 (by omega)).1
      simp only [Addr.add, Nat.zero_mul, if_true] at hc0
      obtain ⟨b, o, rfl⟩ := spot_none hc0
      refine .inr ⟨b, o, rfl, fun i hi => ?_⟩
      obtain ⟨g1, g2, t1, t2⟩ := hrow i (by omega)
      rw [add_plain] at g1 g2
      obtain ⟨k, e1, _, hw⟩ := DataW.trod_int Yba.underlying5 t1
      obtain ⟨q, e2, _⟩ := DataW.trod_bool Yba.underlying4 t2
      simp at e1 e2
      refine ⟨?_, ?_⟩
      · rw [g1]
        show some (V0 i) = some (Value.int .u8 (u8of (V0 i) : Nat))
        rw [e1, u8of_int hw]
      · rw [show o + i * 2 + 1 = o + (i * 2 + 1) by omega, g2]
        show some (V1 i) = some (Value.bool (boolOf (V1 i)))
        rw [e2]
        rfl
end

set_option maxRecDepth 100000 in
theorem lifted (os : Os) (started : os.Started) (H : Type) (enc : TypeId × Value → H) :
    ReturnsInHanded {} Yba.checked os 3 .any (Rows.lawS194039AWholeSpec.pre6 enc Yba.prog Yba.f3 Rows.lawS194039AWholeRow.domain false) (Rows.lawS194039AWholeSpec.post enc Yba.prog Yba.f3 false true false false) := by
  refine returnsInHanded_of_change (C := Yba.checked) own started (by kernel_rfl) Yba.func3
    (ChangeSpec.witness6 (enc := enc) (C := Yba.checked) false ⟨#[], #[.slice none 0 0, .bool false, .slice none 0 0, .slice none 0 0, .slice none 0 0], []⟩ 8 (by kernel_rfl) (by kernel_rfl) (by kernel_rfl) (by kernel_rfl)) ?_
  intro W base args ds gs before hval0 hW hcnd _
  have hval : ∀ (j : Nat) t v, Yba.f3.params[j]? = some t → args[j]? = some v → Value.okWide Yba.prog W .any base t v := hval0
  have hW' := hW
  obtain ⟨p, q, hA0, hV, rfl, hfz, hnd⟩ := hW
  have hA : DataW.TrodAll enc Yba.prog W 0 (fun _ => true) true Yba.f3.params.toList args.toList ds p := hA0
  rw [Yba.params3] at hA hval
  obtain ⟨v0, vs0, d0, ds0, p0, q0, hargs, rfl, rfl, h0, r0⟩ := trodAll_cons hA
  obtain ⟨v1, vs1, d1, ds1, p1, q1, rfl, rfl, rfl, h1, r1⟩ := trodAll_cons r0
  obtain ⟨v2, vs2, d2, ds2, p2, q2, rfl, rfl, rfl, h2, r2⟩ := trodAll_cons r1
  obtain ⟨v3, vs3, d3, ds3, p3, q3, rfl, rfl, rfl, h3, r3⟩ := trodAll_cons r2
  obtain ⟨v4, vs4, d4, ds4, p4, q4, rfl, rfl, rfl, h4, r4⟩ := trodAll_cons r3
  obtain ⟨rfl, rfl, rfl⟩ := trodAll_nil r4
  obtain rfl : args = #[v0, v1, v2, v3, v4] := by cases args; simp_all
  obtain ⟨rfl, rfl⟩ := trodVars_none hV
  obtain ⟨a0, len0, cap0, rfl⟩ := okWide_slice Yba.underlying22 (hval 0 22 v0 rfl rfl)
  obtain ⟨a1, rfl, rfl, rfl⟩ := open_bool Yba.underlying4 (hval 1 4 v1 rfl rfl) h1
  obtain ⟨a2, len2, cap2, rfl⟩ := okWide_slice Yba.underlying23 (hval 2 23 v2 rfl rfl)
  obtain ⟨a3, len3, cap3, rfl⟩ := okWide_slice Yba.underlying24 (hval 3 24 v3 rfl rfl)
  obtain ⟨a4, len4, cap4, rfl⟩ := okWide_slice Yba.underlying23 (hval 4 23 v4 rfl rfl)
  have k0 := h0
  have k2 := h2
  have k3 := h3
  have k4 := h4
  have lt0 : ∀ x ∈ p0, x.block < W.heap.size := by obtain ⟨m, hm⟩ := k0; exact DataW.trod_lt m _ _ _ hm
  have lt2 : ∀ x ∈ p2, x.block < W.heap.size := by obtain ⟨m, hm⟩ := k2; exact DataW.trod_lt m _ _ _ hm
  have lt3 : ∀ x ∈ p3, x.block < W.heap.size := by obtain ⟨m, hm⟩ := k3; exact DataW.trod_lt m _ _ _ hm
  have lt4 : ∀ x ∈ p4, x.block < W.heap.size := by obtain ⟨m, hm⟩ := k4; exact DataW.trod_lt m _ _ _ hm
  obtain ⟨e0, f0, g0, hf0, s0⟩ : len0 ≤ maxLen ∧ ∃ (f : Nat → Nat) (g : Nat → Bool), (∀ i, f i < 256) ∧ SeesT W a0 len0 f g := by obtain ⟨fuel, hf⟩ := h0; exact view_pairs hf
  obtain ⟨e2, f2, hf2, s2⟩ : len2 ≤ maxLen ∧ ∃ f : Nat → Nat, (∀ i, f i < 256) ∧ Sees W a2 len2 (fun i => .int .u8 (f i)) := by obtain ⟨fuel, hf⟩ := h2; exact view_bytes (v := .bool true) hf
  obtain ⟨e3, Ar, Ln, Cp, Z, hZ, hLn, s3⟩ : len3 ≤ maxLen ∧ ∃ (Ar : Nat → Option Addr) (Ln Cp : Nat → Nat) (Z : Nat → Nat → Nat), (∀ c i, Z c i < 256) ∧ (∀ c, Ln c ≤ 9223372036854775807) ∧ SeesS W a3 len3 Ar Ln Cp Z := by obtain ⟨fuel, hf⟩ := h3; exact view_rows hf
  obtain ⟨e4, f4, hf4, s4⟩ : len4 ≤ maxLen ∧ ∃ f : Nat → Nat, (∀ i, f i < 256) ∧ Sees W a4 len4 (fun i => .int .u8 (f i)) := by obtain ⟨fuel, hf⟩ := h4; exact view_bytes (v := .bool true) hf
  clear hA0 hval0
  have walk : Calls Yba.prog 3 #[.slice a0 len0 cap0, .bool a1, .slice a2 len2 cap2, .slice a3 len3 cap3, .slice a4 len4 cap4] W fun e w' => e = .returned (.bool true) ∧ Below W.heap.size W w' := by
    by_cases hbig : 256 < len0 ∨ 256 < len2 ∨ 256 < len3 ∨ 4096 < len4
    · exact law_out W a0 a2 a3 a4 len0 cap0 len2 cap2 len3 cap3 len4 cap4 a1 e0 e2 e3 e4 hbig
    · exact law_in W a0 a2 a3 a4 len0 cap0 len2 cap2 len3 cap3 len4 cap4 a1 f0 g0 f2 f4 Ar Ln Cp Z s0 hf0 s2 hf2 s4 hf4 s3 hZ hLn (by omega) (by omega) (by omega) (by omega)
  refine walk.mono fun e W' ⟨he, bel⟩ => ?_
  subst he
  exact ⟨_, rfl, _, _, _, [], _, [], hW', trodAll_mk1 (shut_bool Yba.underlying4 _), (trodAll_cons_mk (Below.trod laidOut (by kernel_rfl) (of_decide_eq_true (by kernel_rfl)) k0 bel lt0) (trodAll_cons_mk (shut_bool Yba.underlying4 _) (trodAll_cons_mk (Below.trod laidOut (by kernel_rfl) (of_decide_eq_true (by kernel_rfl)) k2 bel lt2) (trodAll_cons_mk (Below.trod laidOut (by kernel_rfl) (of_decide_eq_true (by kernel_rfl)) k3 bel lt3) (trodAll_cons_mk (Below.trod laidOut (by kernel_rfl) (of_decide_eq_true (by kernel_rfl)) k4 bel lt4) trodAll_mk0))))), rfl, bel.frame _, fun h => by cases h⟩

theorem over : Rows.lawS194039AWholeRow.holds Yba.pinned (OpenSpec.ofChange Rows.lawS194039AWholeSpec) :=
  OpenClaim.holds_of_wide 3 Yba.f3 rfl rfl rfl rfl rfl rfl rfl ⟨rfl, rfl, rfl, rfl, rfl⟩ rfl rfl rfl rfl rfl (by kernel_rfl) Yba.func3 (by kernel_rfl)
    (of_decide_eq_true (by kernel_rfl)) (by unfold Func.isWrapper; first | (rw [if_pos (by decide +kernel)]; kernel_rfl) | (rw [if_neg (by decide +kernel)]; exact ⟨rfl, rfl⟩))
    (fun os started H enc _ => lifted os started H enc)

/-- THE STATEMENT -/
theorem proved : Rows.LawS194039AWholeSaid := over
end Go.Proofs.Ybulkexnno
