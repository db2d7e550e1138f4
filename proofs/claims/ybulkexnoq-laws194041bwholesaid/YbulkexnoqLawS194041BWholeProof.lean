import Derived.Test.YbulkexnoqRU6
import Derived.ProofKit
import Derived.SizedLaws
import Derived.SliceStrings
import Derived.Deep.Slices
import Derived.OpenShut
import Derived.ShutString
namespace Go.Proofs.Ybulkexnoq.lawS194041BWhole
open Go.ChangeShapes Go.WideShapes Go.ChangeAt Go.RowKit Go.Deep
set_option linter.unusedVariables false

theorem own : ownKnob Yba.prog.godebug = none := by kernel_rfl
theorem laidOut : laidOutB Yba.prog = true := by kernel_rfl

section
variable {H : Type} {enc : TypeId × Value → H} {W : World}

theorem spot_none {w : World} {a : Addr} {v : Value} (h : w.cell? a = some v) : ∃ b o, a = ⟨b, o, none⟩ := by
  obtain ⟨b, o, s⟩ := a
  have := World.cell?_spot h
  simp only at this
  subst this
  exact ⟨b, o, rfl⟩
theorem add_plain (b o j : Nat) : (⟨b, o, none⟩ : Addr).add j = ⟨b, o + j, none⟩ := by unfold Addr.add; split <;> simp_all

theorem view_named {a : Option Addr} {len cap fuel : Nat} {x : DataW H × List MemPlace} (hf : DataW.trod enc Yba.prog W 0 (fun _ => true) true fuel 46 [.slice a len cap] = some x) :
    ∃ y : Nat → Ent, See3 W a len y ∧ (∀ i, 0 ≤ (y i).2.2) ∧ ∀ i, (y i).1.size ≤ maxLen := by
  have dz : ∀ i : Nat, 0 ≤ ((fun _ => (ByteArray.empty, 0, 0) : Nat → Ent) i).2.2 := fun i => by simp
  have ds : ∀ i : Nat, ((fun _ => (ByteArray.empty, 0, 0) : Nat → Ent) i).1.size ≤ maxLen := fun i => by simp [maxLen]
  rcases open_slice Yba.underlying46 hf with ⟨hcs, hx⟩ | ⟨z, l, c, m, n, D, Pl, hcs, _, hl, hm, hmm, hx, hrow⟩
  · simp at hcs
    obtain ⟨rfl, rfl, rfl⟩ := hcs
    exact ⟨_, .inl rfl, dz, ds⟩
  · simp at hcs
    obtain ⟨rfl, rfl, rfl⟩ := hcs
    simp only [if_true] at hmm
    subst hmm
    have c34 : Yba.prog.cellsOf 47 = 3 := by kernel_rfl
    have c9 : Yba.prog.cellsOf 9 = 1 := by kernel_rfl
    have c2 : Yba.prog.cellsOf 2 = 1 := by kernel_rfl
    have c24 : Yba.prog.cellsOf 24 = 1 := by kernel_rfl
    rw [c34] at hrow
    rcases Nat.eq_zero_or_pos len with h0 | hp
    · exact ⟨_, .inl h0, dz, ds⟩
    obtain ⟨b, o, rfl⟩ : ∃ b o, z = ⟨b, o, none⟩ := by
      obtain ⟨cs', h1, _⟩ := hrow 0 (by omega)
      obtain ⟨_, h2, h3⟩ := World.cells?_some h1
      have h4 := h3 0 (by omega)
      simp only [Addr.add, Nat.zero_mul, if_true] at h4
      rw [List.getElem?_eq_getElem (by omega)] at h4
      exact spot_none h4
    obtain ⟨f, hff⟩ := choose_lt (α := Ent) (n := len) (p := fun i q => (W.cell? ⟨b, o + i * 3, none⟩ = some (.string q.1) ∧ W.cell? ⟨b, o + i * 3 + 1, none⟩ = some (.int .i64 q.2.1) ∧ W.cell? ⟨b, o + i * 3 + 2, none⟩ = some (.int .u64 q.2.2)) ∧ 0 ≤ q.2.2 ∧ q.1.size ≤ maxLen) (fun i hi => by
      obtain ⟨cs', h1, h2⟩ := hrow i (by omega)
      obtain ⟨_, h3, h4⟩ := World.cells?_some h1
      match cs', h3 with
      | [x0, x1, x2], _ =>
        have g0 := h4 0 (by omega)
        have g1 := h4 1 (by omega)
        have g2 := h4 2 (by omega)
        simp only [add_plain, List.getElem?_cons_zero, List.getElem?_cons_succ, Nat.add_zero] at g0 g1 g2
        obtain ⟨xs, n', _, hag, hcl, hxl, hfs⟩ := DataW.trod_struct Yba.underlying47 h2
        match xs, hxl with
        | [y0, y1, y2], _ =>
          have t0 := hfs 0 _ rfl
          have t1 := hfs 1 _ rfl
          have t2 := hfs 2 _ rfl
          simp [c9, c2, c24] at t0 t1 t2
          obtain ⟨q0, e0, _, hs⟩ := DataW.trod_string Yba.underlying9 t0
          obtain ⟨q1, e1, _⟩ := DataW.trod_int Yba.underlying2 t1
          obtain ⟨q2, e2, _, hw⟩ := DataW.trod_int Yba.underlying24 t2
          simp at e0 e1 e2
          subst e0 e1 e2
          exact ⟨(q0, q1, q2), ⟨g0, g1, g2⟩, by simp [Lit.wf, IntKind.min, IntKind.signed] at hw; exact hw.1, hs⟩)
    refine ⟨fun i => if i < len then f i else (ByteArray.empty, 0, 0), .inr ⟨b, o, rfl, fun i hi => ?_⟩, fun i => ?_, fun i => ?_⟩
    · simp only [hi, if_true]
      exact (hff i hi).1
    · by_cases hi : i < len
      · simp only [hi, if_true]
        exact (hff i hi).2.1
      · simp [hi]
    · by_cases hi : i < len
      · simp only [hi, if_true]
        exact (hff i hi).2.2
      · simp [hi, maxLen]
end

set_option maxRecDepth 100000 in
theorem lifted (os : Os) (started : os.Started) (H : Type) (enc : TypeId × Value → H) :
    ReturnsInHanded {} Yba.checked os 4 .any (Rows.lawS194041BWholeSpec.pre6 enc Yba.prog Yba.f4 Rows.lawS194041BWholeRow.domain false) (Rows.lawS194041BWholeSpec.post enc Yba.prog Yba.f4 false true false false) := by
  refine returnsInHanded_of_change_sized (C := Yba.checked) own started (by kernel_rfl) Yba.func4
    (ChangeSpec.witness6 (enc := enc) (C := Yba.checked) false ⟨#[], #[.slice none 0 0, .string ByteArray.empty, .int .u8 0, .bool false], []⟩ 8 (by kernel_rfl) (by kernel_rfl) (by kernel_rfl) (by kernel_rfl)) ?_
  intro W base args ds gs before hval0 hW _ hsz0 _
  have hval : ∀ (j : Nat) t v, Yba.f4.params[j]? = some t → args[j]? = some v → Value.okWide Yba.prog W .any base t v := hval0
  have hW' := hW
  obtain ⟨p, q, hA0, hV, rfl, hfz, hnd⟩ := hW
  have hA : DataW.TrodAll enc Yba.prog W 0 (fun _ => true) true Yba.f4.params.toList args.toList ds p := hA0
  rw [Yba.params4] at hA hval
  obtain ⟨v0, vs0, d0, ds0, p0, q0, hargs, rfl, rfl, h0, r0⟩ := trodAll_cons hA
  obtain ⟨v1, vs1, d1, ds1, p1, q1, rfl, rfl, rfl, h1, r1⟩ := trodAll_cons r0
  obtain ⟨v2, vs2, d2, ds2, p2, q2, rfl, rfl, rfl, h2, r2⟩ := trodAll_cons r1
  obtain ⟨v3, vs3, d3, ds3, p3, q3, rfl, rfl, rfl, h3, r3⟩ := trodAll_cons r2
  obtain ⟨rfl, rfl, rfl⟩ := trodAll_nil r3
  obtain rfl : args = #[v0, v1, v2, v3] := by cases args; simp_all
  obtain ⟨rfl, rfl⟩ := trodVars_none hV
  obtain ⟨a0, len0, cap0, rfl⟩ := okWide_slice Yba.underlying46 (hval 0 46 v0 rfl rfl)
  obtain ⟨name, rfl⟩ := okWide_string Yba.underlying9 (hval 1 9 v1 rfl rfl)
  obtain ⟨pk, rfl, rfl, rfl, wpk⟩ := open_int Yba.underlying5 (hval 2 5 v2 rfl rfl) h2
  obtain ⟨nl, rfl, rfl, rfl⟩ := open_bool Yba.underlying4 (hval 3 4 v3 rfl rfl) h3
  have k0 := h0
  have k1 := h1
  have lt0 : ∀ x ∈ p0, x.block < W.heap.size := by obtain ⟨m, hm⟩ := k0; exact DataW.trod_lt m _ _ _ hm
  have lt1 : ∀ x ∈ p1, x.block < W.heap.size := by obtain ⟨m, hm⟩ := k1; exact DataW.trod_lt m _ _ _ hm
  have hpk : 0 ≤ pk ∧ pk < 256 := by
    simp [Lit.wf, IntKind.min, IntKind.max, IntKind.signed, IntKind.bits] at wpk
    omega
  obtain ⟨x, hx, _, _⟩ : ∃ y : Nat → Ent, See3 W a0 len0 y ∧ (∀ i, 0 ≤ (y i).2.2) ∧ ∀ i, (y i).1.size ≤ maxLen := by
    obtain ⟨fuel, hf⟩ := h0
    exact view_named (x := (d0, p0)) hf
  clear hA0 hval0
  refine (lawB_any W a0 len0 cap0 name pk nl x hx hpk).mono fun e W' ⟨he, bel⟩ => ?_
  subst he
  exact ⟨_, rfl, _, _, _, [], _, [], hW', trodAll_mk1 (shut_bool Yba.underlying4 _), (trodAll_cons_mk (Below.trod laidOut (by kernel_rfl) (of_decide_eq_true (by kernel_rfl)) k0 bel lt0) (trodAll_cons_mk (Below.trod laidOut (by kernel_rfl) (of_decide_eq_true (by kernel_rfl)) k1 bel lt1) (trodAll_cons_mk (shut_int Yba.underlying5 wpk) (trodAll_mk1 (shut_bool Yba.underlying4 _))))), rfl, bel.frame _, fun h => by cases h⟩

theorem over : Rows.lawS194041BWholeRow.holds Yba.pinned (OpenSpec.ofChange Rows.lawS194041BWholeSpec) :=
  OpenClaim.holds_of_wide 4 Yba.f4 rfl rfl rfl rfl rfl rfl rfl ⟨rfl, rfl, rfl, rfl, rfl⟩ rfl rfl rfl rfl rfl (by kernel_rfl) Yba.func4 (by kernel_rfl)
    (of_decide_eq_true (by kernel_rfl)) (by unfold Func.isWrapper; first | (rw [if_pos (by decide +kernel)]; kernel_rfl) | (rw [if_neg (by decide +kernel)]; exact ⟨rfl, rfl⟩))
    (fun os started H enc _ => lifted os started H enc)

/-- THE STATEMENT -/
theorem proved : Rows.LawS194041BWholeSaid := over
end Go.Proofs.Ybulkexnoq.lawS194041BWhole
