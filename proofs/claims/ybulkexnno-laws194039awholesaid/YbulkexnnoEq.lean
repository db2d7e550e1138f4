import Derived.Test.YbulkexnnoRows
import Derived.WalkKit
import Derived.WalkLawsBesides
import Derived.Deep.LoopGhost
import Derived.Deep.Draws
import Derived.Deep.QuietTactic
import Derived.BigQuiet
import Derived.LaidEqlPtr
namespace Go.Proofs.Ybulkexnno
open Go.RowKit

/-- What a slice value's elements are: nothing, or the cells behind its address. -/
def Sees (w : World) (p : Option Addr) (n : Nat) (f : Nat → Value) : Prop :=
  n = 0 ∨ ∃ b o, p = some ⟨b, o, none⟩ ∧ ∀ i, i < n → w.cell? ⟨b, o + i, none⟩ = some (f i)

theorem eq_ints (p q : Option Addr) (n c d : Nat) (f : Nat → Int) (w : World) (hn : n ≤ 9223372036854775807)
    (h1 : Sees w p n (fun i => .int .i64 (f i))) (h2 : Sees w q n (fun i => .int .i64 (f i))) :
    Calls Yba.prog 8 #[.slice p n c, .slice q n d] w fun e w' => e = .returned (.bool true) ∧ ∃ m, w' = w.drewN m := by
  go_enter Yba.func8, Yba.ntmps8
  go_wp2
  go_loopg [13] n (fun g s13 wr => ∃ k q : Nat, k ≤ n ∧ n - k ≤ g ∧ s13 = .int .i64 k ∧ wr = w.drewN q)
  case atStart => exact ⟨0, 0, Nat.zero_le _, by omega, rfl, rfl⟩
  case round =>
    obtain ⟨k, m, hk, hg, rfl, rfl⟩ := hrel
    by_cases hlt : k < n
    · rcases h1 with h1 | ⟨b1, o1, rfl, h1⟩
      · omega
      rcases h2 with h2 | ⟨b2, o2, rfl, h2⟩
      · omega
      have g1 := h1 k hlt
      have g2 := h2 k hlt
      clear h1 h2
      go_wp2_with fail
      go_quiet (fail)
      go_wp2
      go_roundg (n - (k + 1))
      case measure => omega
      case rel => exact ⟨k + 1, _, by omega, by omega, by go_num, rfl⟩
    · go_wp2
      go_ret
      exact ⟨rfl, m, rfl⟩
/-- A type's box. -/
def IsT (w : World) (b : Nat) (c : Int) (p : Bool) : Prop :=
  ∃ cs : Array Value, w.heap[b]? = some (.cells cs 30 (0, 0)) ∧ cs[4]? = some (.int .u8 c) ∧ cs[5]? = some (.bool p)

theorem cell_of_block {w : World} {b i : Nat} {cs : Array Value} {t : TypeId} {v : Value} (h : w.heap[b]? = some (.cells cs t (0, 0))) (hv : cs[i]? = some v) :
    w.cell? ⟨b, i, none⟩ = some v := by
  simp [World.cell?, h, hv]
theorem IsT.cat {w : World} {b : Nat} {c : Int} {p : Bool} (h : IsT w b c p) : w.cell? ⟨b, 4, none⟩ = some (.int .u8 c) := by
  obtain ⟨cs, h1, h2, h3⟩ := h; exact cell_of_block h1 h2
theorem IsT.pref {w : World} {b : Nat} {c : Int} {p : Bool} (h : IsT w b c p) : w.cell? ⟨b, 5, none⟩ = some (.bool p) := by
  obtain ⟨cs, h1, h2, h3⟩ := h; exact cell_of_block h1 h3
theorem Yba.info30 : (Yba.prog.info? 30).map (fun i => decide (i.size = 0)) = some false := by kernel_rfl
theorem info30 : ∃ j, Yba.prog.info? 30 = some j ∧ j.size ≠ 0 := by
  have h := Yba.info30
  cases e : Yba.prog.info? 30 with
  | none => rw [e] at h; simp at h
  | some j => rw [e] at h; simp at h; exact ⟨j, rfl, h⟩

theorem ptr_equal {w : World} {a b : Nat} {c d : Int} {p q : Bool} (ha : IsT w a c p) (hb : IsT w b d q) (W : World) (hW : W.heap = w.heap) :
    (Op.equal 25 (.pointer (some ⟨a, 0, none⟩)) (.pointer (some ⟨b, 0, none⟩))).run Yba.prog W = .ok (decide (a = b)) W := by
  obtain ⟨j, hj, hz⟩ := info30
  by_cases hab : a = b
  · subst hab
    have h : ∀ d : Nat, (Op.equalIn (d + 1) 25 (.pointer (some ⟨a, 0, none⟩)) (.pointer (some ⟨a, 0, none⟩))).run Yba.prog W = .ok true W := fun d => by
      simp [Op.equalIn, run_underlying Yba.underlying25, sizeOf, typeInfo, hj, run_sameAddr_same]
    rw [decide_eq_true rfl]; exact h 9999
  · obtain ⟨ca, ha, _⟩ := ha
    obtain ⟨cb, hb, _⟩ := hb
    have hne : (⟨a, 0, none⟩ : Addr) ≠ ⟨b, 0, none⟩ := fun e => hab (by injection e)
    have h : ∀ d : Nat, (Op.equalIn (d + 1) 25 (.pointer (some ⟨a, 0, none⟩)) (.pointer (some ⟨b, 0, none⟩))).run Yba.prog W = .ok false W := fun d => by
      simp [Op.equalIn, run_underlying Yba.underlying25, sizeOf, typeInfo, hj, hz, run_sameAddr_other W hne (by rw [hW]; exact ha) (by rw [hW]; exact hb)]
    rw [decide_eq_false hab]; exact h 9999

theorem ptr_eql {w : World} {a b : Nat} {c d : Int} {p q : Bool} (ha : IsT w a c p) (hb : IsT w b d q) (W : World) (hW : W.heap = w.heap) :
    (binOp .eql 25 (.pointer (some ⟨a, 0, none⟩)) (.pointer (some ⟨b, 0, none⟩))).run Yba.prog W = .ok (.bool (decide (a = b))) W := by
  simp only [binOp]
  simp [ptr_equal ha hb W hW]

theorem ptr_neq {w : World} {a b : Nat} {c d : Int} {p q : Bool} (ha : IsT w a c p) (hb : IsT w b d q) (W : World) (hW : W.heap = w.heap) :
    (binOp .neq 25 (.pointer (some ⟨a, 0, none⟩)) (.pointer (some ⟨b, 0, none⟩))).run Yba.prog W = .ok (.bool (!decide (a = b))) W := by
  simp only [binOp]
  simp [ptr_equal ha hb W hW]

/-- What both sides ask of an argument's type a and a parameter's type b: the same box, or b is preferred and of a's category. -/
def tst (κ : Nat → Int) (π : Nat → Bool) (a b : Nat) : Bool := decide (a = b) || (π b && (κ b == κ a))

theorem closure_any (κ : Nat → Int) (π : Nat → Bool) (a b : Nat) (w : World) (ha : IsT w a (κ a) (π a)) (hb : IsT w b (κ b) (π b)) :
    Calls Yba.prog 11 #[.pointer (some ⟨a, 0, none⟩), .pointer (some ⟨b, 0, none⟩)] w fun e w' => e = .returned (.bool (tst κ π a b)) ∧ ∃ m, w' = w.drewN m := by
  have ha4 := ha.cat
  have hb4 := hb.cat
  have hb5 := hb.pref
  have he := fun n : Nat => ptr_eql ha hb (w.drewN n) rfl
  clear ha hb
  by_cases hab : a = b
  · subst hab
    have e : tst κ π a a = true := by simp [tst]
    rw [e]
    clear e
    simp only [decide_true] at he
    go_enter Yba.func11, Yba.ntmps11
    go_wp2_with fail
    go_quiet (fail)
    go_wp2
    go_ret
    exact ⟨rfl, _, rfl⟩
  · have e : tst κ π a b = (π b && (κ b == κ a)) := by simp [tst, hab]
    rw [e]
    clear e
    simp only [hab, decide_false] at he
    clear hab
    generalize κ a = ka at *
    generalize κ b = kb at *
    generalize π b = pb at *
    cases pb
    all_goals
      go_enter Yba.func11, Yba.ntmps11
      go_wp2_with fail
      go_quiet (fail)
      go_wp2
      go_ret
      exact ⟨by simp, _, rfl⟩
theorem eq_ptrs (p q : Option Addr) (n c d : Nat) (f : Nat → Nat) (w : World) (hn : n ≤ 9223372036854775807)
    (hT : ∀ i, i < n → ∃ c p, IsT w (f i) c p)
    (h1 : Sees w p n (fun i => .pointer (some ⟨f i, 0, none⟩))) (h2 : Sees w q n (fun i => .pointer (some ⟨f i, 0, none⟩))) :
    Calls Yba.prog 9 #[.slice p n c, .slice q n d] w fun e w' => e = .returned (.bool true) ∧ ∃ m, w' = w.drewN m := by
  go_enter Yba.func9, Yba.ntmps9
  go_wp2
  go_loopg [13] n (fun g s13 wr => ∃ k q : Nat, k ≤ n ∧ n - k ≤ g ∧ s13 = .int .i64 k ∧ wr = w.drewN q)
  case atStart => exact ⟨0, 0, Nat.zero_le _, by omega, rfl, rfl⟩
  case round =>
    obtain ⟨k, m, hk, hg, rfl, rfl⟩ := hrel
    by_cases hlt : k < n
    · rcases h1 with h1 | ⟨b1, o1, rfl, h1⟩
      · omega
      rcases h2 with h2 | ⟨b2, o2, rfl, h2⟩
      · omega
      have g1 := h1 k hlt
      have g2 := h2 k hlt
      obtain ⟨tc, tp, ht⟩ := hT k hlt
      have hne := fun n : Nat => ptr_neq ht ht (w.drewN n) rfl
      simp only [decide_true] at hne
      clear h1 h2 hT ht
      go_wp2_with fail
      go_quiet (fail)
      go_wp2
      go_roundg (n - (k + 1))
      case measure => omega
      case rel => exact ⟨k + 1, _, by omega, by omega, by go_num, rfl⟩
    · go_wp2
      go_ret
      exact ⟨rfl, m, rfl⟩

theorem counts_any (κ : Nat → Int) (π : Nat → Bool) (a b u : Nat) (w : World) (ha : IsT w a (κ a) (π a)) (hb : IsT w b (κ b) (π b)) (hu : IsT w u (κ u) (π u)) :
    Calls Yba.prog 7 #[.pointer (some ⟨a, 0, none⟩), .pointer (some ⟨b, 0, none⟩), .pointer (some ⟨u, 0, none⟩)] w fun e w' =>
      e = .returned (.bool (!decide (a = u) && tst κ π a b)) ∧ ∃ m, w' = w.drewN m := by
  have ha4 := ha.cat
  have hb4 := hb.cat
  have hb5 := hb.pref
  have he := ptr_eql ha hb w rfl
  have hf := ptr_eql ha hu w rfl
  clear ha hb hu
  by_cases hau : a = u
  · subst hau
    simp only [decide_true] at hf
    rw [decide_eq_true rfl]
    go_enter Yba.func7, Yba.ntmps7
    go_wp2
    go_ret
    exact ⟨rfl, 0, rfl⟩
  · simp only [hau, decide_false] at hf
    rw [decide_eq_false hau]
    by_cases hab : a = b
    · subst hab
      have e : tst κ π a a = true := by simp [tst]
      rw [e]
      clear e
      simp only [decide_true] at he
      go_enter Yba.func7, Yba.ntmps7
      go_wp2
      go_ret
      exact ⟨rfl, 0, rfl⟩
    · have e : tst κ π a b = (π b && (κ b == κ a)) := by simp [tst, hab]
      rw [e]
      clear e
      simp only [hab, decide_false] at he
      clear hab hau
      generalize κ a = ka at *
      generalize κ b = kb at *
      generalize π b = pb at *
      cases pb
      all_goals
        go_enter Yba.func7, Yba.ntmps7
        go_wp2_with fail
        go_quiet (fail)
        go_wp2
        go_ret
        exact ⟨by simp, _, rfl⟩

theorem unknown_any (m a u : Nat) (w : World) (h0 : w.cell? ⟨m, 0, none⟩ = some (.pointer (some ⟨a, 0, none⟩))) (h1 : w.cell? ⟨a, 1, none⟩ = some (.pointer (some ⟨u, 0, none⟩))) :
    Calls Yba.prog 12 #[.pointer (some ⟨m, 0, none⟩)] w fun e w' => e = .returned (.pointer (some ⟨u, 0, none⟩)) ∧ w' = w := by
  go_enter Yba.func12, Yba.ntmps12
  go_wp2
  go_ret
  exact ⟨rfl, rfl⟩
end Go.Proofs.Ybulkexnno
