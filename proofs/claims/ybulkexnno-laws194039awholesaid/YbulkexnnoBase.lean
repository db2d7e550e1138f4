import Derived.Test.YbulkexnnoKeep
import Derived.Deep.OwnRows
import Derived.Deep.DeepCutAuto
namespace Go.Proofs.Ybulkexnno
open Go.RowKit

/-- The number of the first region of a piece of code. -/
def headReg : Code → Nat
  | .region k _ _ => k
  | .seq a _ => headReg a
  | .block _ c => headReg c
  | .loop c => headReg c
  | .scope c => headReg c
  | _ => 1000000
/-- The code of a chain of statements from the one on that begins with region r. -/
def dropTo (r : Nat) : Code → Code
  | .seq a b => match headReg a == r with
    | true => .seq a b
    | false => dropTo r b
  | c => c

theorem below_next {V W W' : World} (h : Below V.heap.size V W) (k : Below W.heap.size W W') : Below V.heap.size V W' := h.trans (k.mono h.size)

theorem Yba.info5 : (Yba.prog.info? 5).map (fun i => (i.zero, i.size, i.bytes)) = some (some (.int .u8 0), 1, 1) := by kernel_rfl
theorem Yba.info4 : (Yba.prog.info? 4).map (fun i => (i.zero, i.size, i.bytes)) = some (some (.bool false), 1, 1) := by kernel_rfl
theorem Yba.info31 : (Yba.prog.info? 31).map (fun i => (i.zero, i.size, i.bytes)) = some (some (.slice none 0 0), 1, 24) := by kernel_rfl

theorem lt_of_cell {w : World} {b o : Nat} {v : Value} (h : w.cell? ⟨b, o, none⟩ = some v) : b < w.heap.size := by
  rcases Nat.lt_or_ge b w.heap.size with h' | h'
  · exact h'
  · simp [World.cell?, Array.getElem?_eq_none h'] at h

theorem Sees.later {w w' : World} {p : Option Addr} {n : Nat} {f : Nat → Value} (h : Sees w p n f) (hb : Below w.heap.size w w') : Sees w' p n f := by
  rcases h with h | ⟨b, o, e, h⟩
  · exact .inl h
  · exact .inr ⟨b, o, e, fun i hi => cell_later hb (h i hi)⟩

/-- The first argument: pairs of a byte and a bool. -/
def SeesT (w : World) (p : Option Addr) (n : Nat) (f : Nat → Nat) (g : Nat → Bool) : Prop :=
  n = 0 ∨ ∃ b o, p = some ⟨b, o, none⟩ ∧ ∀ i, i < n → w.cell? ⟨b, o + i * 2, none⟩ = some (.int .u8 (f i)) ∧ w.cell? ⟨b, o + i * 2 + 1, none⟩ = some (.bool (g i))
theorem SeesT.later {w w' : World} {p : Option Addr} {n : Nat} {f : Nat → Nat} {g : Nat → Bool} (h : SeesT w p n f g) (hb : Below w.heap.size w w') : SeesT w' p n f g := by
  rcases h with h | ⟨b, o, e, h⟩
  · exact .inl h
  · exact .inr ⟨b, o, e, fun i hi => ⟨cell_later hb (h i hi).1, cell_later hb (h i hi).2⟩⟩

/-- The fourth argument: rows of bytes. -/
def SeesS (w : World) (p : Option Addr) (n : Nat) (A : Nat → Option Addr) (L Cp : Nat → Nat) (Z : Nat → Nat → Nat) : Prop :=
  n = 0 ∨ ∃ b o, p = some ⟨b, o, none⟩ ∧ ∀ c, c < n → w.cell? ⟨b, o + c, none⟩ = some (.slice (A c) (L c) (Cp c)) ∧ Sees w (A c) (L c) (fun i => .int .u8 (Z c i))
theorem SeesS.later {w w' : World} {p : Option Addr} {n : Nat} {A : Nat → Option Addr} {L Cp : Nat → Nat} {Z : Nat → Nat → Nat} (h : SeesS w p n A L Cp Z) (hb : Below w.heap.size w w') : SeesS w' p n A L Cp Z := by
  rcases h with h | ⟨b, o, e, h⟩
  · exact .inl h
  · exact .inr ⟨b, o, e, fun i hi => ⟨cell_later hb (h i hi).1, (h i hi).2.later hb⟩⟩

theorem rowIs_later {w w' : World} {b t n : Nat} {f : Nat → Value} (h : w.rowIs b t n f) (hb : Below w.heap.size w w') : w'.rowIs b t n f := h.of_block (hb.block b h.lt)

/-- The pool: n0 + 1 pointers to types' boxes. -/
structure Pool (κ : Nat → Int) (π : Nat → Bool) (PB N : Nat) (Pb : Nat → Nat) (W : World) : Prop where
  row : W.rowIs PB 25 N (fun i => .pointer (some ⟨Pb i, 0, none⟩))
  isT : ∀ i, i < N → IsT W (Pb i) (κ (Pb i)) (π (Pb i))
theorem Pool.later {κ : Nat → Int} {π : Nat → Bool} {PB N : Nat} {Pb : Nat → Nat} {W W' : World} (h : Pool κ π PB N Pb W) (hb : Below W.heap.size W W') : Pool κ π PB N Pb W' :=
  ⟨rowIs_later h.row hb, fun i hi => (h.isT i hi).later hb⟩

theorem mod_nat (x n : Nat) : (x : Int) % ((n : Int) + 1) = ((x % (n + 1) : Nat) : Int) := by
  rw [Int.natCast_emod]; rfl
theorem tmod_nat (x n : Nat) : (x : Int).tmod ((n : Int) + 1) = ((x % (n + 1) : Nat) : Int) := by
  rw [Int.tmod_eq_emod_of_nonneg (by omega)]; exact mod_nat x n

theorem made_at (z : Value) (n i : Nat) (h : i < n) : (madeCells #[z] n)[i]? = some z := by
  have := toList_madeCells_one z n
  rw [← Array.getElem?_toList, this]; simp [h]

theorem cell_heap {V W : World} (h : V.heap = W.heap) (a : Addr) : V.cell? a = W.cell? a := by simp [World.cell?, h]
theorem IsT.heap {V W : World} (h : V.heap = W.heap) {b : Nat} {c : Int} {p : Bool} (ht : IsT W b c p) : IsT V b c p := by
  obtain ⟨cs, h1, h2⟩ := ht
  exact ⟨cs, by rw [h]; exact h1, h2⟩
end Go.Proofs.Ybulkexnno
