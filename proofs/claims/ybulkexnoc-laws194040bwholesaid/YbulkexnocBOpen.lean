import Derived.Test.YbulkexnocBEnv
import Derived.ProofKit
import Derived.SizedLaws
import Derived.SliceStrings
import Derived.Deep.Slices
namespace Go.Proofs.Ybulkexnoc
open Go.ChangeShapes Go.WideShapes Go.ChangeAt Go.RowKit Go.Deep
set_option linter.unusedVariables false

theorem spot_none {w : World} {a : Addr} {v : Value} (h : w.cell? a = some v) : ∃ b o, a = ⟨b, o, none⟩ := by
  obtain ⟨b, o, s⟩ := a
  have := World.cell?_spot h
  simp only at this
  subst this
  exact ⟨b, o, rfl⟩

theorem weightsAll_mem {H : Type} {P : Program} {e : TypeId} : ∀ {l : List (DataW H)} {d : DataW H}, d ∈ l → ∀ n ∈ d.weights P e, n ∈ DataW.weightsAll P e l
  | d' :: r, d, hd, n, hn => by
    simp only [DataW.weightsAll, List.mem_append]
    rcases List.mem_cons.1 hd with rfl | h
    · exact Or.inl hn
    · exact Or.inr (weightsAll_mem h n hn)

section
variable {H : Type} {enc : TypeId × Value → H} {W : World}

theorem view_names {v : Value} {fuel : Nat} {x : DataW H × List MemPlace} (hf : DataW.trod enc Yba.prog W 0 (fun _ => true) true fuel 23 [v] = some x) :
    ∃ a len cap, v = .slice a len cap ∧ (∃ s : Nat → ByteArray, (∀ j, (s j).size ≤ maxLen) ∧ Sees W a len (fun j => .string (s j))) ∧ (len = 0 ∨ ∃ e sp, x.1 = .slice e sp ∧ len ≤ e.length) := by
  rcases open_strings Yba.underlying23 Yba.underlying9 (by kernel_rfl) hf with ⟨hcs, hx⟩ | ⟨y, l, c, ss, hcs, _, hl, hm, hz, hx, hcell, hws⟩
  · simp at hcs
    subst hcs
    exact ⟨none, 0, 0, rfl, ⟨fun _ => ByteArray.empty, fun _ => by simp [maxLen], .inl rfl⟩, .inl rfl⟩
  · simp at hcs hz
    subst hcs
    refine ⟨some y, l, c, rfl, ⟨fun j => ss.getD j ByteArray.empty, fun j => ?_, ?_⟩, .inr ⟨_, _, by rw [hx], by simp [strs]; omega⟩⟩
    · show (ss.getD j ByteArray.empty).size ≤ maxLen
      by_cases hj : j < ss.length
      · rw [List.getD_eq_getElem?_getD, List.getElem?_eq_getElem hj]
        exact hws _ (by simp)
      · rw [List.getD_eq_getElem?_getD, List.getElem?_eq_none (by omega)]
        simp [maxLen]
    · rcases Nat.eq_zero_or_pos l with h0 | hp
      · exact .inl h0
      · have hc0 := hcell 0 (by omega)
        simp only [Addr.add, if_true] at hc0
        obtain ⟨b, o, rfl⟩ := spot_none hc0
        refine .inr ⟨b, o, rfl, fun i hi => ?_⟩
        have := hcell i (by omega)
        rw [add_plain] at this
        exact this

theorem view_nums {v : Value} {fuel : Nat} {x : DataW H × List MemPlace} (hf : DataW.trod enc Yba.prog W 0 (fun _ => true) true fuel 24 [v] = some x) :
    ∃ a len cap, v = .slice a len cap ∧ len ≤ 9223372036854775807 ∧ ∃ z : Nat → Int, Sees W a len (fun j => .int .i64 (z j)) := by
  rcases open_ints Yba.underlying24 Yba.underlying2 (by kernel_rfl) hf with ⟨hcs, hx⟩ | ⟨y, l, c, zs, hcs, _, hl, hm, hz, hx, hcell, hws⟩
  · simp at hcs
    subst hcs
    exact ⟨none, 0, 0, rfl, by omega, fun _ => 0, .inl rfl⟩
  · simp at hcs hz
    subst hcs
    simp only [maxLen] at hm
    refine ⟨some y, l, c, rfl, by omega, fun j => zs.getD j 0, ?_⟩
    rcases Nat.eq_zero_or_pos l with h0 | hp
    · exact .inl h0
    · have hc0 := hcell 0 (by omega)
      simp only [Addr.add, if_true] at hc0
      obtain ⟨b, o, rfl⟩ := spot_none hc0
      refine .inr ⟨b, o, rfl, fun i hi => ?_⟩
      have := hcell i (by omega)
      rw [add_plain] at this
      exact this

abbrev One := Option Addr × Nat × Nat × Option Addr × Nat × Nat × Bool × Bool × (Nat → ByteArray) × (Nat → Int)
def datOf (f : Nat → One) : Dat :=
  ⟨fun i => (f i).1, fun i => (f i).2.1, fun i => (f i).2.2.1, fun i => (f i).2.2.2.1, fun i => (f i).2.2.2.2.1, fun i => (f i).2.2.2.2.2.1, fun i => (f i).2.2.2.2.2.2.1, fun i => (f i).2.2.2.2.2.2.2.1,
    fun i j => if (((f i).2.2.2.2.2.2.2.2.1) j).size ≤ maxLen then ((f i).2.2.2.2.2.2.2.2.1) j else ByteArray.empty, fun i => (f i).2.2.2.2.2.2.2.2.2⟩

theorem view_envs {a : Option Addr} {len cap fuel : Nat} {x : DataW H × List MemPlace} (hf : DataW.trod enc Yba.prog W 0 (fun _ => true) true fuel 22 [.slice a len cap] = some x)
    (hsz : ∀ n ∈ x.1.weights Yba.prog 22, n ≤ reachBytes) :
    len ≤ 9223372036854775807 ∧ ∃ d : Dat, (∀ i, i < len → d.Nn i ≤ 8796093022208) ∧ (∀ i, i < len → d.Mn i ≤ 9223372036854775807) ∧ (∀ i j, (d.S i j).size ≤ maxLen) ∧ SeesE W a len d := by
  rcases open_slice Yba.underlying22 hf with ⟨hcs, hx⟩ | ⟨y, l, c, m, n, D, Pl, hcs, _, hl, hm, hmm, hx, hrow⟩
  · simp at hcs
    obtain ⟨rfl, rfl, rfl⟩ := hcs
    refine ⟨by omega, datOf (fun _ => default), fun i hi => by omega, fun i hi => by omega, fun i j => ?_, .inl rfl⟩
    simp only [datOf]
    split
    · assumption
    · simp [maxLen]
  · simp at hcs
    obtain ⟨rfl, rfl, rfl⟩ := hcs
    simp only [if_true] at hmm
    subst hmm
    simp only [maxLen] at hm
    have c26 : Yba.prog.cellsOf 26 = 4 := by kernel_rfl
    have c23 : Yba.prog.cellsOf 23 = 1 := by kernel_rfl
    have c24 : Yba.prog.cellsOf 24 = 1 := by kernel_rfl
    have c4 : Yba.prog.cellsOf 4 = 1 := by kernel_rfl
    have b9 : Yba.prog.bytesOf 9 = 16 := by kernel_rfl
    rw [c26] at hrow
    rcases Nat.eq_zero_or_pos len with h0 | hp
    · subst h0
      refine ⟨by omega, datOf (fun _ => default), fun i hi => by omega, fun i hi => by omega, fun i j => ?_, .inl rfl⟩
      simp only [datOf]
      split
      · assumption
      · simp [maxLen]
    obtain ⟨b, o, rfl⟩ : ∃ b o, y = ⟨b, o, none⟩ := by
      obtain ⟨cs', h1, _⟩ := hrow 0 (by omega)
      obtain ⟨_, h2, h3⟩ := World.cells?_some h1
      have h4 := h3 0 (by omega)
      simp only [Addr.add, Nat.zero_mul, if_true] at h4
      rw [List.getElem?_eq_getElem (by omega)] at h4
      exact spot_none h4
    obtain ⟨f, hff⟩ := choose_lt (α := One) (n := len) (p := fun i q => W.cell? ⟨b, o + i * 4, none⟩ = some (.slice q.1 q.2.1 q.2.2.1) ∧ W.cell? ⟨b, o + i * 4 + 1, none⟩ = some (.slice q.2.2.2.1 q.2.2.2.2.1 q.2.2.2.2.2.1) ∧
        W.cell? ⟨b, o + i * 4 + 2, none⟩ = some (.bool q.2.2.2.2.2.2.1) ∧ W.cell? ⟨b, o + i * 4 + 3, none⟩ = some (.bool q.2.2.2.2.2.2.2.1) ∧ Sees W q.1 q.2.1 (fun j => .string (q.2.2.2.2.2.2.2.2.1 j)) ∧
        Sees W q.2.2.2.1 q.2.2.2.2.1 (fun j => .int .i64 (q.2.2.2.2.2.2.2.2.2 j)) ∧ q.2.1 ≤ 8796093022208 ∧ q.2.2.2.2.1 ≤ 9223372036854775807 ∧ ∀ j, (q.2.2.2.2.2.2.2.2.1 j).size ≤ maxLen) (fun i hi => by
      obtain ⟨cs', h1, h2⟩ := hrow i (by omega)
      obtain ⟨_, h3, h4⟩ := World.cells?_some h1
      match cs', h3 with
      | [x0, x1, x2, x3], _ =>
        have g0 := h4 0 (by omega)
        have g1 := h4 1 (by omega)
        have g2 := h4 2 (by omega)
        have g3 := h4 3 (by omega)
        simp only [add_plain, List.getElem?_cons_zero, List.getElem?_cons_succ, Nat.add_zero] at g0 g1 g2 g3
        obtain ⟨xs, n', _, hag, hcl, hxl, hfs⟩ := DataW.trod_struct Yba.underlying26 h2
        match xs, hxl with
        | [y0, y1, y2, y3], _ =>
          have t0 := hfs 0 _ rfl
          have t1 := hfs 1 _ rfl
          have t2 := hfs 2 _ rfl
          have t3 := hfs 3 _ rfl
          simp [c23, c24, c4] at t0 t1 t2 t3
          obtain ⟨a1, n1, p1, rfl, ⟨s, hs1, hs2⟩, hwt⟩ := view_names t0
          obtain ⟨a2, n2, p2, rfl, hn2, z, hz⟩ := view_nums t1
          obtain ⟨q2, e2, _⟩ := DataW.trod_bool Yba.underlying4 t2
          obtain ⟨q3, e3, _⟩ := DataW.trod_bool Yba.underlying4 t3
          simp at e2 e3
          subst e2 e3
          refine ⟨(a1, n1, p1, a2, n2, p2, q2, q3, s, z), g0, g1, g2, g3, hs2, hz, ?_, hn2, hs1⟩
          show n1 ≤ 8796093022208
          rcases hwt with rfl | ⟨e, sp, hy0, hle⟩
          · omega
          · have hw : (e.length + sp.length) * 16 ≤ reachBytes := by
              refine hsz _ ?_
              rw [hx]
              simp only [DataW.weights, Yba.underlying22, List.mem_cons, List.mem_append]
              refine Or.inr (Or.inl (weightsAll_mem (d := D i) (List.mem_map.2 ⟨i, List.mem_range.2 hi, rfl⟩) _ ?_))
              have hD : D i = .agg [y0.1, y1.1, y2.1, y3.1] := by
                have := congrArg Prod.fst hag
                simpa using this
              rw [hD]
              simp only [DataW.weights, Yba.underlying26]
              refine DataW.weights_mem_each (j := 0) (t := 23) (d := y0.1) rfl rfl _ ?_
              rw [hy0]
              simp [DataW.weights, Yba.underlying23, b9]
            have hr : reachBytes = 140737488351232 := rfl
            rw [hr] at hw
            omega)
    refine ⟨by omega, datOf f, fun i hi => (hff i hi).2.2.2.2.2.2.1, fun i hi => (hff i hi).2.2.2.2.2.2.2.1, fun i j => ?_, .inr ⟨b, o, rfl, fun i hi => ?_⟩⟩
    · simp only [datOf]
      split
      · assumption
      · simp [maxLen]
    · obtain ⟨k0, k1, k2, k3, k4, k5, _, _, k8⟩ := hff i hi
      refine ⟨k0, k1, k2, k3, ?_, k5⟩
      have : (fun j => Value.string ((datOf f).S i j)) = fun j => Value.string ((f i).2.2.2.2.2.2.2.2.1 j) := by
        funext j
        simp only [datOf]
        rw [if_pos (k8 j)]
      rw [this]
      exact k4
end
end Go.Proofs.Ybulkexnoc
