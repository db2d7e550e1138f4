import Derived.Test.YbulkexnocFmtALaw
import Derived.Test.YbulkexnocFmtCards
import Derived.ProofKit
import Derived.ChangeSlices
import Derived.JoinedOf
import Derived.Carry
import Derived.Stop.JoinedAt
import Derived.Stop.Texts
import Derived.Stop.JoinedTold
import Derived.SizedLaws
import Derived.SevenToldRow
import Derived.OpenShut
import Derived.Deep.Slices
namespace Go.Proofs.YbulkexnocFmt.lawS194040AWhole
open Go.ChangeShapes Go.WideShapes Go.ChangeAt Go.RowKit Go.Kit Go.Deep
open Go.Extern.Stop Go.Stop Go.Extern
set_option linter.unusedVariables false

theorem own : ownKnob Ybaf.prog.godebug = none := by kernel_rfl
theorem laidOut : laidOutB Ybaf.pinned.checked.prog = true := by kernel_rfl
theorem cells25 : Ybaf.prog.cellsOf 25 = 9 := by kernel_rfl
theorem cells3 : Ybaf.prog.cellsOf 3 = 1 := by kernel_rfl
theorem cells4 : Ybaf.prog.cellsOf 4 = 1 := by kernel_rfl
theorem cells5 : Ybaf.prog.cellsOf 5 = 1 := by kernel_rfl
theorem cells22 : Ybaf.prog.cellsOf 22 = 1 := by kernel_rfl
theorem cells23 : Ybaf.prog.cellsOf 23 = 1 := by kernel_rfl

section
variable {H : Type} {enc : TypeId × Value → H} {W : World}

theorem spot_none {w : World} {a : Addr} {v : Value} (h : w.cell? a = some v) : ∃ b o, a = ⟨b, o, none⟩ := by
  obtain ⟨b, o, s⟩ := a
  have := World.cell?_spot h
  simp only at this
  subst this
  exact ⟨b, o, rfl⟩

theorem view_bytes {v : Value} {fuel : Nat} {x : DataW H × List MemPlace} (hf : DataW.trod enc Ybaf.prog W 0 (fun _ => true) true fuel 23 [v] = some x) :
    ∃ a len cap, v = .slice a len cap ∧ ∃ z : Nat → Int, Sees W a len z := by
  rcases open_ints Ybaf.underlying23 Ybaf.underlying5 cells5 hf with ⟨hcs, hx⟩ | ⟨y, l, c, zs, hcs, _, hl, hm, hz, hx, hcell, hws⟩
  · simp at hcs
    subst hcs
    exact ⟨none, 0, 0, rfl, fun _ => 0, .inl rfl⟩
  · simp at hcs hz
    subst hcs
    refine ⟨some y, l, c, rfl, fun j => zs.getD j 0, ?_⟩
    rcases Nat.eq_zero_or_pos l with h0 | hp
    · exact .inl h0
    · have hc0 := hcell 0 (by omega)
      simp only [Addr.add, if_true] at hc0
      obtain ⟨b, o, rfl⟩ := spot_none hc0
      refine .inr ⟨b, o, rfl, fun i hi => ?_⟩
      have := hcell i (by omega)
      have e : (⟨b, o, none⟩ : Addr).add i = ⟨b, o + i, none⟩ := by unfold Addr.add; split <;> simp_all
      rw [e] at this
      exact this

theorem view_state {cs : Array Value} {fuel : Nat} {x : DataW H × List MemPlace} (hsz : cs.size = 9) (hf : DataW.trod enc Ybaf.prog W 0 (fun _ => true) true fuel 25 cs.toList = some x) :
    ∃ (so su em0 : Int) (al : Bool) (dep : Int) (chk : Bool) (most : Int) (p : Option Addr) (n c : Nat) (base : Int) (f : Nat → Int),
      cs = #[.int .i64 so, .int .u64 su, .int .i64 em0, .bool al, .int .i64 dep, .bool chk, .int .i64 most, .slice p n c, .int .i64 base] ∧ Sees W p n f := by
  obtain ⟨l⟩ := cs
  match l, hsz with
  | [x0, x1, x2, x3, x4, x5, x6, x7, x8], _ =>
    obtain ⟨xs, n', _, hag, hcl, hxl, hfs⟩ := DataW.trod_struct Ybaf.underlying25 hf
    match xs, hxl with
    | [y0, y1, y2, y3, y4, y5, y6, y7, y8], _ =>
      have t0 := hfs 0 _ rfl
      have t1 := hfs 1 _ rfl
      have t2 := hfs 2 _ rfl
      have t3 := hfs 3 _ rfl
      have t4 := hfs 4 _ rfl
      have t5 := hfs 5 _ rfl
      have t6 := hfs 6 _ rfl
      have t7 := hfs 7 _ rfl
      have t8 := hfs 8 _ rfl
      simp [cells3, cells4, cells22, cells23] at t0 t1 t2 t3 t4 t5 t6 t7 t8
      obtain ⟨so, e0, _⟩ := DataW.trod_int Ybaf.underlying3 t0
      obtain ⟨su, e1, _⟩ := DataW.trod_int Ybaf.underlying22 t1
      obtain ⟨em0, e2, _⟩ := DataW.trod_int Ybaf.underlying3 t2
      obtain ⟨al, e3, _⟩ := DataW.trod_bool Ybaf.underlying4 t3
      obtain ⟨dep, e4, _⟩ := DataW.trod_int Ybaf.underlying3 t4
      obtain ⟨chk, e5, _⟩ := DataW.trod_bool Ybaf.underlying4 t5
      obtain ⟨most, e6, _⟩ := DataW.trod_int Ybaf.underlying3 t6
      obtain ⟨p, n, c, e7, f, hs⟩ := view_bytes t7
      obtain ⟨base, e8, _⟩ := DataW.trod_int Ybaf.underlying3 t8
      simp at e0 e1 e2 e3 e4 e5 e6 e8
      subst e0 e1 e2 e3 e4 e5 e6 e7 e8
      exact ⟨so, su, em0, al, dep, chk, most, p, n, c, base, f, rfl, hs⟩
end

set_option maxRecDepth 100000 in
theorem lifted (os : Os) (started : os.Started) (H : Type) (enc : TypeId × Value → H) :
    ReturnsInTold none {} Ybaf.checked os 3 .any Input.okWide ((OpenSpec.ofChange Rows.lawS194040AWholeSpec).preRow enc Ybaf.prog Ybaf.f3 [] false []) (fun F => ((OpenSpec.ofChange Rows.lawS194040AWholeSpec).at F).post enc Ybaf.prog Ybaf.f3 false true false false) (aloneAtReturn Ybaf.prog) nothingAlways := by
  refine returnsInTold_of_row (C := Ybaf.checked) (s := OpenSpec.ofChange Rows.lawS194040AWholeSpec) (by kernel_rfl) own started (by kernel_rfl) Ybaf.func3
    (OpenSpec.witness_stopped (enc := enc) (C := Ybaf.checked) false ⟨#[], #[.agg #[.int .i64 0, .int .u64 0, .int .i64 0, .bool false, .int .i64 0, .bool false, .int .i64 0, .slice none 0 0, .int .i64 0], .int .i64 0, .int .u64 0, .bool false], []⟩ 8 (by kernel_rfl) (by kernel_rfl) (by kernel_rfl) (by kernel_rfl)) ?_
  intro F W base args ds gs before _ hF hval0 hW _ _ hsz _ _
  have hval : ∀ (j : Nat) t v, Ybaf.f3.params[j]? = some t → args[j]? = some v → Value.okWide Ybaf.prog W .any base t v := hval0
  have hW' := hW
  obtain ⟨p, q, hA0, hV, rfl, _, _⟩ := hW
  have hA : DataW.TrodAll enc Ybaf.prog W 0 (fun _ => true) true Ybaf.f3.params.toList args.toList ds p := hA0
  rw [Ybaf.params3] at hA hval
  obtain ⟨v0, vs0, d0, ds0, p0, q0, hargs, rfl, rfl, h0, r0⟩ := trodAll_cons hA
  obtain ⟨v1, vs1, d1, ds1, p1, q1, rfl, rfl, rfl, h1, r1⟩ := trodAll_cons r0
  obtain ⟨v2, vs2, d2, ds2, p2, q2, rfl, rfl, rfl, h2, r2⟩ := trodAll_cons r1
  obtain ⟨v3, vs3, d3, ds3, p3, q3, rfl, rfl, rfl, h3, r3⟩ := trodAll_cons r2
  obtain ⟨rfl, rfl, rfl⟩ := trodAll_nil r3
  obtain rfl : args = #[v0, v1, v2, v3] := by cases args; simp_all
  obtain ⟨rfl, rfl⟩ := trodVars_none hV
  obtain ⟨cs, rfl, hcsz⟩ := okWide_struct Ybaf.underlying25 (hval 0 25 v0 rfl rfl)
  obtain ⟨off, rfl, rfl, rfl, woff⟩ := open_int Ybaf.underlying3 (hval 1 3 v1 rfl rfl) h1
  obtain ⟨used, rfl, rfl, rfl, wused⟩ := open_int Ybaf.underlying22 (hval 2 22 v2 rfl rfl) h2
  obtain ⟨same, rfl, rfl, rfl⟩ := open_bool Ybaf.underlying4 (hval 3 4 v3 rfl rfl) h3
  have k0 := h0
  have lt0 : ∀ x ∈ p0, x.block < W.heap.size := by obtain ⟨m, hm⟩ := k0; exact DataW.trod_lt m _ _ _ hm
  obtain ⟨so, su, em0, al, dep, chk, most, pp, n, c, bas, f, rfl, hs⟩ : ∃ (so su em0 : Int) (al : Bool) (dep : Int) (chk : Bool) (most : Int) (p : Option Addr) (n c : Nat) (base : Int) (f : Nat → Int),
      cs = #[.int .i64 so, .int .u64 su, .int .i64 em0, .bool al, .int .i64 dep, .bool chk, .int .i64 most, .slice p n c, .int .i64 base] ∧ Sees W p n f := by
    obtain ⟨fuel, hf⟩ := h0
    exact view_state (by rw [hcsz]; exact cells25) hf
  clear hA0 hval0
  refine (law_any F W hF f pp n c so su em0 dep most bas off used al chk same hs).mono fun e W' ⟨he, bel⟩ => ?_
  subst he
  exact ⟨_, rfl, _, _, _, [], _, [], hW', trodAll_mk1 (shut_bool Ybaf.underlying4 _), (trodAll_cons_mk (Below.trod laidOut (by kernel_rfl) (of_decide_eq_true (by kernel_rfl)) k0 bel lt0) (trodAll_cons_mk (shut_int Ybaf.underlying3 woff) (trodAll_cons_mk (shut_int Ybaf.underlying22 wused) (trodAll_mk1 (shut_bool Ybaf.underlying4 _))))), rfl, bel.frame _, fun h => by cases h⟩

theorem stops : Ybaf.pinned.checked.prog.stops = ["fmt.Sprintf"] := by kernel_rfl
theorem stopKnobs : Ybaf.pinned.checked.prog.stopKnobs = [] := by kernel_rfl
theorem quiet (os : Os) : Stop.quiet Ybaf.pinned.checked.prog os := by
  intro k hk
  rw [stopKnobs] at hk
  cases hk

theorem proved : Rows.LawS194040AWholeToldSaid :=
  Claim7.holds_of_told_any 3 Ybaf.f3 "fmt.Sprintf" [] [] _ _ _ (by kernel_rfl) rfl rfl rfl laidOut (by kernel_rfl) rfl ⟨rfl, rfl, rfl, rfl, rfl, rfl, rfl⟩ rfl rfl (by kernel_rfl) (by kernel_rfl) Ybaf.func3 (by kernel_rfl)
    (of_decide_eq_true (by kernel_rfl)) (of_decide_eq_true (by kernel_rfl)) stops.symm rfl stopKnobs.symm (by kernel_rfl)
    (by kernel_rfl) (by kernel_rfl) (by kernel_rfl) (by kernel_rfl) (by kernel_rfl) (by kernel_rfl) (by kernel_rfl) (by kernel_rfl) (by kernel_rfl) rfl (by kernel_rfl) rfl rfl
    rfl rfl
    rfl (by kernel_rfl) (by kernel_rfl) (by kernel_rfl) (by decide) (by kernel_rfl)
    (OpenClaim.moreEntering_of (by kernel_rfl) (by kernel_rfl) (by kernel_rfl) (by kernel_rfl) (by kernel_rfl) (by kernel_rfl) (by kernel_rfl) (by kernel_rfl) (by kernel_rfl) (by kernel_rfl))
    ⟨_, WideRow.started_initial, quiet _⟩
    (fun os started _ H enc _ => lifted os started H enc)
end Go.Proofs.YbulkexnocFmt.lawS194040AWhole
