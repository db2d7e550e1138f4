import Derived.Test.YbulkexnocRows
import Derived.WalkKit
import Derived.WalkLawsBesides
namespace Go.Proofs.Ybulkexnoc.lawS194040CWhole
open Go.RowKit

def W (t n : Int) : Int :=
  if t = 9 then n else if t = 10 then n else if t = 28 then 8 else if t = 29 then 16 else if t = 30 then 32 else if t = 31 then 64
  else if t = 32 then 8 else if t = 33 then 16 else if t = 34 then 32 else if t = 35 then 64 else 0
def S (t : Int) : Bool :=
  if t = 9 then false else if t = 10 then true else if t = 28 then false else if t = 29 then false else if t = 30 then false else if t = 31 then false
  else if t = 32 then true else if t = 33 then true else if t = 34 then true else if t = 35 then true else false
def K (t : Int) : Bool :=
  if t = 9 then true else if t = 10 then true else if t = 28 then true else if t = 29 then true else if t = 30 then true else if t = 31 then true
  else if t = 32 then true else if t = 33 then true else if t = 34 then true else if t = 35 then true else false

theorem tags (t : Int) : t = 9 ∨ t = 10 ∨ t = 28 ∨ t = 29 ∨ t = 30 ∨ t = 31 ∨ t = 32 ∨ t = 33 ∨ t = 34 ∨ t = 35 ∨
    (t ≠ 9 ∧ t ≠ 10 ∧ t ≠ 28 ∧ t ≠ 29 ∧ t ≠ 30 ∧ t ≠ 31 ∧ t ≠ 32 ∧ t ≠ 33 ∧ t ≠ 34 ∧ t ≠ 35) := by omega

theorem model_any (t n : Int) (w : World) :
    Calls Yba.prog 10 #[.int .u64 t, .int .u64 n] w fun e w' => e = .returned (.tuple #[.int .u64 (W t n), .bool (S t), .bool (K t)]) ∧ w' = w := by
  rcases tags t with rfl | rfl | rfl | rfl | rfl | rfl | rfl | rfl | rfl | rfl | ⟨h1, h2, h3, h4, h5, h6, h7, h8, h9, h10⟩
  all_goals try (
    go_enter Yba.func10, Yba.ntmps10
    go_wp2
    go_ret3
    exact ⟨rfl, rfl⟩)
  have e1 : (t == 9) = false := beq_eq_false_iff_ne.2 h1
  have e2 : (t == 10) = false := beq_eq_false_iff_ne.2 h2
  have e3 : (t == 28) = false := beq_eq_false_iff_ne.2 h3
  have e4 : (t == 29) = false := beq_eq_false_iff_ne.2 h4
  have e5 : (t == 30) = false := beq_eq_false_iff_ne.2 h5
  have e6 : (t == 31) = false := beq_eq_false_iff_ne.2 h6
  have e7 : (t == 32) = false := beq_eq_false_iff_ne.2 h7
  have e8 : (t == 33) = false := beq_eq_false_iff_ne.2 h8
  have e9 : (t == 34) = false := beq_eq_false_iff_ne.2 h9
  have e10 : (t == 35) = false := beq_eq_false_iff_ne.2 h10
  have f1 : W t n = 0 := by simp [W, *]
  have f2 : S t = false := by simp [S, *]
  have f3 : K t = false := by simp [K, *]
  rw [f1, f2, f3]
  clear f1 f2 f3
  go_enter Yba.func10, Yba.ntmps10
  go_wp2
  go_ret3
  exact ⟨rfl, rfl⟩

theorem width_any (b : Nat) (t n : Int) (w : World) (h0 : w.cell? ⟨b, 0, none⟩ = some (.int .u64 t)) (h1 : w.cell? ⟨b, 1, none⟩ = some (.int .u64 n)) :
    Calls Yba.prog 9 #[.pointer (some ⟨b, 0, none⟩)] w fun e w' => e = .returned (.tuple #[.int .u64 (W t n), .bool (S t), .bool (K t)]) ∧ w' = w := by
  rcases tags t with rfl | rfl | rfl | rfl | rfl | rfl | rfl | rfl | rfl | rfl | ⟨g1, g2, g3, g4, g5, g6, g7, g8, g9, g10⟩
  all_goals try (
    go_enter Yba.func9, Yba.ntmps9
    go_wp2
    go_ret3
    exact ⟨rfl, rfl⟩)
  have e1 : (t == 9) = false := beq_eq_false_iff_ne.2 g1
  have e2 : (t == 10) = false := beq_eq_false_iff_ne.2 g2
  have e3 : (t == 28) = false := beq_eq_false_iff_ne.2 g3
  have e4 : (t == 29) = false := beq_eq_false_iff_ne.2 g4
  have e5 : (t == 30) = false := beq_eq_false_iff_ne.2 g5
  have e6 : (t == 31) = false := beq_eq_false_iff_ne.2 g6
  have e7 : (t == 32) = false := beq_eq_false_iff_ne.2 g7
  have e8 : (t == 33) = false := beq_eq_false_iff_ne.2 g8
  have e9 : (t == 34) = false := beq_eq_false_iff_ne.2 g9
  have e10 : (t == 35) = false := beq_eq_false_iff_ne.2 g10
  have f1 : W t n = 0 := by simp [W, *]
  have f2 : S t = false := by simp [S, *]
  have f3 : K t = false := by simp [K, *]
  rw [f1, f2, f3]
  clear f1 f2 f3
  go_enter Yba.func9, Yba.ntmps9
  go_wp2
  go_ret3
  exact ⟨rfl, rfl⟩
end Go.Proofs.Ybulkexnoc.lawS194040CWhole
