import Derived.Test.YbulkexnoqQBase
namespace Go.Proofs.Ybulkexnoq
open Go.RowKit
set_option linter.unusedVariables false
set_option linter.unusedSimpArgs false

def cell3 (x : Nat → Ent) (q : Nat) : Value := if q % 3 = 0 then .string (x (q / 3)).1 else if q % 3 = 1 then .int .i64 (x (q / 3)).2.1 else .int .u64 (x (q / 3)).2.2
theorem cell3_0 (x : Nat → Ent) (j : Nat) : cell3 x (j * 3) = .string (x j).1 := by
  unfold cell3; rw [if_pos (by omega)]; congr 3; omega
theorem cell3_1 (x : Nat → Ent) (j : Nat) : cell3 x (j * 3 + 1) = .int .i64 (x j).2.1 := by
  unfold cell3; rw [if_neg (by omega), if_pos (by omega)]; congr 4; omega
theorem cell3_2 (x : Nat → Ent) (j : Nat) : cell3 x (j * 3 + 2) = .int .u64 (x j).2.2 := by
  unfold cell3; rw [if_neg (by omega), if_neg (by omega)]; congr 4; omega
theorem cell3_one (x : Nat → Ent) (q : Nat) : (cell3 x q).oneCell' = true := by
  unfold cell3; split
  · rfl
  · split <;> rfl

def At3 (w : World) (b o n : Nat) (x : Nat → Ent) : Prop :=
  ∀ i, i < n → w.cell? ⟨b, o + i * 3, none⟩ = some (.string (x i).1) ∧ w.cell? ⟨b, o + i * 3 + 1, none⟩ = some (.int .i64 (x i).2.1) ∧ w.cell? ⟨b, o + i * 3 + 2, none⟩ = some (.int .u64 (x i).2.2)
def See3 (w : World) (p : Option Addr) (n : Nat) (x : Nat → Ent) : Prop := n = 0 ∨ ∃ b o, p = some ⟨b, o, none⟩ ∧ At3 w b o n x
theorem At3.later {w w' : World} {b o n : Nat} {x : Nat → Ent} (h : At3 w b o n x) (hb : Below w.heap.size w w') : At3 w' b o n x := fun i hi =>
  ⟨cell_later hb (h i hi).1, cell_later hb (h i hi).2.1, cell_later hb (h i hi).2.2⟩
theorem See3.later {w w' : World} {p : Option Addr} {n : Nat} {x : Nat → Ent} (h : See3 w p n x) (hb : Below w.heap.size w w') : See3 w' p n x := by
  rcases h with h | ⟨b, o, e, h⟩
  · exact .inl h
  · exact .inr ⟨b, o, e, h.later hb⟩

def Found (n : Nat) (x : Nat → Ent) (e : Ending) : Prop :=
  ∃ k, k ≤ n ∧ (∀ i, i < k → pos (x i) = true) ∧ ((k < n ∧ pos (x k) = false ∧ e = .returned (.int .i64 k)) ∨ (k = n ∧ e = .returned (.int .i64 (-1))))
def fn20 : Value := .func (.func 20) #[] #[]

set_option maxRecDepth 100000 in
set_option maxHeartbeats 1000000 in
theorem index_any (p : Option Addr) (n c : Nat) (x : Nat → Ent) (w : World) (hn : n ≤ 1048576) (h : See3 w p n x) (hl : ∀ i, 0 ≤ (x i).2.2) :
    Calls Yba.prog 32 #[.slice p n c, fn20] w fun e w' => Below w.heap.size w w' ∧ Found n x e := by
  have hpr := fun k V => pred_any (x k) (hl k) V
  have HP := show Hid _ from hpr
  have HS := show Hid _ from h
  have HN := show Hid _ from hn
  clear hpr h hn hl
  unfold fn20
  go_enter Yba.func32, Yba.ntmps32
  go_wp2_with fail
  go_loopg [8] n (fun g s8 wr => ∃ k : Nat, k ≤ n ∧ n - k ≤ g ∧ s8 = .int .i64 k ∧ Below w.heap.size w wr ∧ Hid (∀ i, i < k → pos (x i) = true))
  case atStart => exact ⟨0, Nat.zero_le _, by omega, rfl, Below.refl _ _, show Hid _ from fun i hi => by omega⟩
  case round =>
    obtain ⟨k, hk, hg, rfl, hbel, HB⟩ := hrel
    have hn := HN.out
    by_cases hlt : k < n
    · rcases HS.out with h1 | ⟨b1, o1, rfl, h1⟩
      · omega
      have g0 := cell_later hbel (h1 k hlt).1
      have g1 := cell_later hbel (h1 k hlt).2.1
      have g2 := cell_later hbel (h1 k hlt).2.2
      clear h1
      go_wp2_with fail
      refine Calls.mono (HP.out k _) ?_
      rintro e w' ⟨rfl, hb2⟩
      have hb3 := hbel.trans (hb2.mono hbel.size)
      clear hb2 g0 g1 g2
      dsimp only
      cases hp : pos (x k)
      · go_wp2_with fail
        go_ret
        exact ⟨hb3, k, hk, HB.out, .inl ⟨hlt, hp, rfl⟩⟩
      · go_wp2_with fail
        go_roundg (n - (k + 1))
        case measure => omega
        case rel => exact ⟨k + 1, by omega, by omega, by go_num, hb3, show Hid _ from fun i hi => by
          by_cases hik : i = k
          · rw [hik]; exact hp
          · exact HB.out i (by omega)⟩
    · obtain rfl : k = n := by omega
      go_wp2_with fail
      go_ret
      exact ⟨hbel, k, Nat.le_refl _, HB.out, .inr ⟨rfl, rfl⟩⟩

theorem contains_any (p : Option Addr) (n c : Nat) (x : Nat → Ent) (w : World) (hn : n ≤ 1048576) (h : See3 w p n x) (hl : ∀ i, 0 ≤ (x i).2.2) :
    Calls Yba.prog 22 #[.slice p n c, fn20] w fun e w' => Below w.heap.size w w' ∧ ((∀ i, i < n → pos (x i) = true) ∧ e = .returned (.bool false) ∨ (∃ k, k < n ∧ pos (x k) = false) ∧ e = .returned (.bool true)) := by
  have hc := fun V (hV : V = w) => index_any p n c x V hn (by rw [hV]; exact h) hl
  have HC := show Hid _ from hc
  clear hc hn h hl
  unfold fn20
  go_enter Yba.func22, Yba.ntmps22
  go_wp2_with fail
  refine Calls.mono (HC.out _ rfl) ?_
  rintro e w' ⟨hb, k, hk, hall, ⟨hlt, hp, rfl⟩ | ⟨rfl, rfl⟩⟩
  · have e1 : decide ((0 : Int) ≤ (k : Int)) = true := decide_eq_true (by omega)
    dsimp only
    go_wp2_with fail
    go_ret
    exact ⟨hb, .inr ⟨⟨k, hlt, hp⟩, rfl⟩⟩
  · dsimp only
    go_wp2_with fail
    go_ret
    exact ⟨hb, .inl ⟨hall, rfl⟩⟩

/-- (Vector).list -/
theorem list_nil (a b c d : Value) (w : World) :
    Calls Yba.prog 23 #[.agg #[a, b, c, d, .pointer none]] w fun e w' => e = .returned (.slice none 0 0) ∧ Below w.heap.size w w' := by
  have hb := (Below.refl w.heap.size w).alloc (Nat.le_refl _) (.cells #[a, b, c, d, .pointer none] 41)
  have HB := show Hid _ from hb
  clear hb
  go_enter Yba.func23, Yba.ntmps23
  go_wp2_with fail
  go_ret
  exact ⟨rfl, HB.out⟩
theorem list_some (a b c d : Value) (NP : Nat) (v : Value) (w : World) (h : w.cell? ⟨NP, 0, none⟩ = some v) :
    Calls Yba.prog 23 #[.agg #[a, b, c, d, .pointer (some ⟨NP, 0, none⟩)]] w fun e w' => e = .returned v ∧ Below w.heap.size w w' := by
  have hb := (Below.refl w.heap.size w).alloc (Nat.le_refl _) (.cells #[a, b, c, d, .pointer (some ⟨NP, 0, none⟩)] 41)
  have hlt : NP < w.heap.size := World.block_lt_of_cell? w _ h
  have HB := show Hid _ from hb
  clear hb
  have hne : NP ≠ w.heap.size := by omega
  have h' := fun x => (World.cell?_alloc_lt w x ⟨NP, 0, none⟩ hlt).trans h
  go_enter Yba.func23, Yba.ntmps23
  go_wp2_with fail
  go_ret
  exact ⟨rfl, HB.out⟩

theorem byName_none (p : Option Addr) (c : Nat) (w : World) : Calls Yba.prog 24 #[.slice p 0 c] w fun e w' => e = .returned (.pointer none) ∧ w' = w := by
  go_enter Yba.func24, Yba.ntmps24
  go_wp2_with fail
  go_ret
  exact ⟨rfl, rfl⟩
theorem byName_some (p : Option Addr) (n c : Nat) (hn : 0 < n) (w : World) : Calls Yba.prog 24 #[.slice p n c] w fun e w' => e = .returned (.pointer (some ⟨w.heap.size, 0, none⟩)) ∧ w' = w.alloc (.cells #[.slice p n c] 39) := by
  go_enter Yba.func24, Yba.ntmps24
  go_wp2_with fail
  go_ret
  exact ⟨rfl, rfl⟩
end Go.Proofs.Ybulkexnoq
