import Derived.Test.YbulkexnnoT2
import Derived.BigRegion
namespace Go.Proofs.Ybulkexnno
open Go.RowKit
set_option linter.unusedVariables false

/-- The pool while it is filled: k types stand behind 'unknown'. -/
structure Q1 (w : World) (n0 : Nat) (k : Nat) (Pb : Nat → Nat) (wr : World) : Prop where
  bel : Below w.heap.size w wr
  siz : w.heap.size + 2 ≤ wr.heap.size
  row : wr.rowIs (w.heap.size + 1) 25 (n0 + 1) (fun i => if i < k + 1 then .pointer (some ⟨Pb i, 0, none⟩) else .pointer none)
  ist : ∀ i, i < k + 1 → ∃ c p, IsT wr (Pb i) c p
  ne : ∀ i, i < k + 1 → Pb i ≠ w.heap.size + 1
  zero : Pb 0 = w.heap.size

theorem Q1.drew {w wr : World} {n0 k : Nat} {Pb : Nat → Nat} (h : Q1 w n0 k Pb wr) : Q1 w n0 k Pb wr.drew := ⟨h.bel.drew, h.siz, h.row, h.ist, h.ne, h.zero⟩

theorem Q1.step {w wr V : World} {n0 k : Nat} {Pb : Nat → Nat} (h : Q1 w n0 k Pb wr) (hV : Below wr.heap.size wr V) (cs : Array Value) {c : Int} {p : Bool} (h4 : cs[4]? = some (.int .u8 c)) (h5 : cs[5]? = some (.bool p)) :
    Q1 w n0 (k + 1) (fun i => if i = k + 1 then V.heap.size else Pb i) ((V.alloc (.cells cs 30)).setCell ⟨w.heap.size + 1, k + 1, none⟩ (.pointer (some ⟨V.heap.size, 0, none⟩))) := by
  have hs := h.siz
  have hsv := hV.size
  have hbV : Below V.heap.size V (V.alloc (.cells cs 30)) := (Below.refl _ _).alloc (Nat.le_refl _) _
  have hb2 : Below wr.heap.size wr (V.alloc (.cells cs 30)) := below_next hV hbV
  refine ⟨(below_next h.bel hb2).setCell (p := ⟨w.heap.size + 1, k + 1, none⟩) (by show w.heap.size ≤ w.heap.size + 1; omega) _, by simp; omega, ?_, ?_, ?_, ?_⟩
  · refine ((rowIs_later h.row hb2).set (k + 1) _).congr (fun i _ => ?_)
    by_cases e : i = k + 1
    · subst e; simp
    · by_cases l : i < k + 1
      · have : i < k + 1 + 1 := by omega
        simp [e, l, this]
      · have : ¬ i < k + 1 + 1 := by omega
        simp [e, l, this]
  · intro i hi
    by_cases e : i = k + 1
    · subst e
      simp only [if_true]
      refine ⟨c, p, cs, ?_, h4, h5⟩
      rw [Below.heap_setCell _ _ _ _ (by show V.heap.size ≠ w.heap.size + 1; omega)]
      exact heap_alloc_new V _
    · simp only [e, if_false]
      obtain ⟨c', p', ht⟩ := h.ist i (by omega)
      have hne := h.ne i (by omega)
      obtain ⟨cs', e1, e2⟩ := ht.later hb2
      exact ⟨c', p', cs', by rw [Below.heap_setCell _ _ _ _ hne]; exact e1, e2⟩
  · intro i hi
    by_cases e : i = k + 1
    · subst e; simp only [if_true]; omega
    · simp only [e, if_false]; exact h.ne i (by omega)
  · simp only [show ¬ (0 = k + 1) by omega, if_false]; exact h.zero

theorem Q1.start (w : World) (n0 : Nat) (cs : Array Value) {c : Int} {p : Bool} (h4 : cs[4]? = some (.int .u8 c)) (h5 : cs[5]? = some (.bool p)) :
    Q1 w n0 0 (fun _ => w.heap.size) ((w.alloc (.cells cs 30)).alloc (.cells ((madeCells #[Value.pointer none] (n0 + 1)).setIfInBounds 0 (.pointer (some ⟨w.heap.size, 0, none⟩))) 25)) := by
  have e : (w.alloc (.cells cs 30)).heap.size = w.heap.size + 1 := by simp
  refine ⟨below_two _ _ _, by simp, ?_, ?_, fun i hi => by omega, rfl⟩
  · have := World.rowIs_alloc (w.alloc (.cells cs 30)) ((madeCells #[Value.pointer none] (n0 + 1)).setIfInBounds 0 (.pointer (some ⟨w.heap.size, 0, none⟩))) 25 (fun i => if i < 0 + 1 then .pointer (some ⟨w.heap.size, 0, none⟩) else .pointer none) (by
      intro i hi
      simp only [Array.size_setIfInBounds, size_madeCells] at hi
      rw [Array.getElem?_setIfInBounds]
      by_cases e0 : i = 0
      · subst e0; simp [size_madeCells]
      · rw [if_neg (fun h => e0 h.symm), made_at _ _ _ hi, if_neg (by omega)])
    rw [e] at this
    simpa [size_madeCells] using this
  · intro i hi
    refine ⟨c, p, cs, ?_, h4, h5⟩
    rw [Below.heap_alloc _ _ _ (by simp)]
    exact heap_alloc_new w _

def catOf (w : World) (b : Nat) : Int := match w.cell? ⟨b, 4, none⟩ with | some (.int _ x) => x | _ => 0
def prefOf (w : World) (b : Nat) : Bool := match w.cell? ⟨b, 5, none⟩ with | some (.bool x) => x | _ => false
theorem isT_of {w : World} {b : Nat} {c : Int} {p : Bool} (h : IsT w b c p) : IsT w b (catOf w b) (prefOf w b) := by
  have e1 : catOf w b = c := by simp [catOf, h.cat]
  have e2 : prefOf w b = p := by simp [prefOf, h.pref]
  rw [e1, e2]; exact h

set_option maxHeartbeats 1000000 in
set_option maxRecDepth 100000 in
theorem law_in (w : World) (p0 p2 p3 p4 : Option Addr) (n0 c0 n2 c2 C c3 n4 c4 : Nat) (up : Bool) (f0 : Nat → Nat) (g0 : Nat → Bool) (f2 f4 : Nat → Nat) (Ar : Nat → Option Addr) (Ln Cp : Nat → Nat) (Z : Nat → Nat → Nat)
    (h0 : SeesT w p0 n0 f0 g0) (hf0 : ∀ i, f0 i < 256) (h2 : Sees w p2 n2 (fun i => .int .u8 (f2 i))) (hf2 : ∀ i, f2 i < 256) (h4 : Sees w p4 n4 (fun i => .int .u8 (f4 i))) (hf4 : ∀ i, f4 i < 256)
    (h3 : SeesS w p3 C Ar Ln Cp Z) (hZ : ∀ c i, Z c i < 256) (hLn : ∀ c, Ln c ≤ 9223372036854775807)
    (b0 : n0 ≤ 256) (b2 : n2 ≤ 256) (b3 : C ≤ 256) (b4 : n4 ≤ 4096) :
    Calls Yba.prog 3 #[.slice p0 n0 c0, .bool up, .slice p2 n2 c2, .slice p3 C c3, .slice p4 n4 c4] w fun e w' => e = .returned (.bool true) ∧ Below w.heap.size w w' := by
  have HF0 := show Hid (∀ i, f0 i < 256) from hf0
  have HF2 := show Hid (∀ i, f2 i < 256) from hf2
  have HF4 := show Hid (∀ i, f4 i < 256) from hf4
  have HZ := show Hid (∀ c i, Z c i < 256) from hZ
  have HLn := show Hid (∀ c, Ln c ≤ 9223372036854775807) from hLn
  clear hf0 hf2 hf4 hZ hLn
  have mk1 := run_make_row' (P := Yba.prog) 31 25 (.pointer none) 8 Yba.underlying31 Yba.info25 rfl .i64 .i64 (n0 + 1) (by omega) (by omega)
  have ec : ((n0 + 1 : Nat) : Int) = (n0 : Int) + 1 := by omega
  rw [ec] at mk1
  clear ec
  have hm0 : (madeCells #[Value.pointer none] (n0 + 1))[0]? = some (.pointer none) := made_at _ _ _ (by omega)
  go_enter Yba.func3, Yba.ntmps3
  go_wp2_with fail
  go_loopw [78] (fun i wr => ∃ k : Nat, ∃ Pb : Nat → Nat, k ≤ n0 ∧ i = .int .i64 k ∧ Q1 w n0 k Pb wr) (fun i _ => n0 - (intOf i).toNat)
  case atStart => exact ⟨0, _, Nat.zero_le _, rfl, Q1.start w n0 _ rfl rfl⟩
  case round =>
    rename_i Kx hKx
    have HK := show Hid _ from hKx
    clear hKx
    obtain ⟨k, Pb, hk, rfl, hq⟩ := hrel
    by_cases hlt : k < n0
    · rcases h0 with h0 | ⟨b, o, rfl, h0⟩
      · omega
      obtain ⟨h0a, h0b⟩ := h0 k hlt
      have hbel := hq.bel
      have hsz := hq.siz
      have g1 := cell_later hbel h0a
      have g2 := cell_later hbel h0b
      have H0 := show Hid _ from h0
      clear h0 h0a h0b
      have hx := HF0.out k
      have hr : f0 k % 5 < 5 := Nat.mod_lt _ (by omega)
      have hm : (f0 k : Int) % 5 = ((f0 k % 5 : Nat) : Int) := (Int.natCast_emod _ _).symm
      generalize f0 k = x at *
      generalize g0 k = y at *
      generalize x % 5 = r at *
      have s1 : wr.cell? ⟨w.heap.size + 1, k + 1, none⟩ = some (.pointer none) := by rw [hq.row.cell (by omega)]; simp
      have f1 : wr.frozen? ⟨w.heap.size + 1, k + 1, none⟩ = false := hq.row.frozen _
      have hx1 : ((r : Nat) : Int) < 5 := by omega
      have hx2 : (0 : Int) ≤ ((r : Nat) : Int) := by omega
      have hx3 : (0 : Int) ≤ (k : Int) + 1 := by omega
      have hx4 : (k : Int) + 1 < (n0 : Int) + 1 := by omega
      obtain ⟨cc, hcc⟩ : ∃ cc : Int, ∀ V : World, (Instr.index 9 (.string ⟨#[78, 83, 88, 66, 68]⟩) (.int .i64 (r : Nat))).run Yba.prog V = .ok (.int .u8 cc) V := by
        match r, hr with
        | 0, _ => exact ⟨78, fun _ => by kernel_rfl⟩
        | 1, _ => exact ⟨83, fun _ => by kernel_rfl⟩
        | 2, _ => exact ⟨88, fun _ => by kernel_rfl⟩
        | 3, _ => exact ⟨66, fun _ => by kernel_rfl⟩
        | 4, _ => exact ⟨68, fun _ => by kernel_rfl⟩
      go_wp2_with fail
      have v1 : (wr.alloc (.cells #[.int .u8 x, .bool y] 33)).cell? ⟨wr.heap.size, 0, none⟩ = some (.int .u8 x) := cell_of_block (heap_alloc_new wr _) rfl
      have v2 : (wr.alloc (.cells #[.int .u8 x, .bool y] 33)).cell? ⟨wr.heap.size, 1, none⟩ = some (.bool y) := cell_of_block (heap_alloc_new wr _) rfl
      have v3 : (wr.alloc (.cells #[.int .u8 x, .bool y] 33)).cell? ⟨w.heap.size + 1, k + 1, none⟩ = some (.pointer none) := by rw [World.cell?_alloc_lt _ _ _ (by show w.heap.size + 1 < _; omega)]; exact s1
      have v4 : (wr.alloc (.cells #[.int .u8 x, .bool y] 33)).frozen? ⟨w.heap.size + 1, k + 1, none⟩ = false := by rw [World.frozen?_alloc_old _ _ _ (by show w.heap.size + 1 ≠ _; omega)]; exact f1
      have v5 : (wr.alloc (.cells #[.int .u8 x, .bool y] 33)).heap.size = wr.heap.size + 1 := by simp
      have v6 : Below wr.heap.size wr (wr.alloc (.cells #[.int .u8 x, .bool y] 33)) := (Below.refl _ _).alloc (Nat.le_refl _) _
      generalize wr.alloc (.cells #[.int .u8 x, .bool y] 33) = V at *
      have v3' : ∀ ob, (V.alloc ob).cell? ⟨w.heap.size + 1, k + 1, none⟩ = some (.pointer none) := fun ob => by rw [World.cell?_alloc_lt _ _ _ (by show w.heap.size + 1 < _; omega)]; exact v3
      have v4' : ∀ ob, (V.alloc ob).frozen? ⟨w.heap.size + 1, k + 1, none⟩ = false := fun ob => by rw [World.frozen?_alloc_old _ _ _ (by show w.heap.size + 1 ≠ _; omega)]; exact v4
      have V5 := show Hid (V.heap.size = wr.heap.size + 1) from v5
      clear v5 g1 g2 s1 f1
      go_big_region
      go_wp2_with fail
      go_roundw
      case rel => exact ⟨k + 1, _, by omega, by go_num, (hq.step v6 _ rfl rfl).drew⟩
      case measure => simp [intOf]; omega
    · obtain rfl : n0 = k := by omega
      go_wp2_with fail
      refine HK.out _ _ ?_
      have hbel := hq.bel
      have hT : ∀ i, i < n0 + 1 → IsT wr (Pb i) (catOf wr (Pb i)) (prefOf wr (Pb i)) := fun i hi => by
        obtain ⟨c, p, h⟩ := hq.ist i hi
        exact isT_of h
      have hT0 := hT 0 (by omega)
      rw [hq.zero] at hT0
      apply t2 w wr (catOf wr) (prefOf wr) Pb f2 p2 p3 p4 n2 c2 C c3 n4 c4 w.heap.size (w.heap.size + 1) (n0 + 1) f4 Ar Ln Cp Z hbel hT0 b3 b4 (h3.later hbel) HZ.out HLn.out (h4.later hbel) HF4.out
        ⟨hq.row.congr (fun i hi => by simp [hi]), hT⟩ (h2.later hbel) HF2.out b2 (by omega) (by omega)
end Go.Proofs.Ybulkexnno
