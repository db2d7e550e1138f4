namespace Go.Proofs.Ybulkexnno

/-- How many of the first n places answer yes. -/
def cnt (t : Nat → Bool) : Nat → Nat
  | 0 => 0
  | n + 1 => if t n then cnt t n + 1 else cnt t n
theorem cnt_le (t : Nat → Bool) (n : Nat) : cnt t n ≤ n := by
  induction n with
  | zero => simp [cnt]
  | succ n ih => simp only [cnt]; split <;> omega
/-- The greatest of the first k counts; -1 of none. -/
def bst (g : Nat → Int) : Nat → Int
  | 0 => -1
  | k + 1 => if bst g k < g k then g k else bst g k
/-- What 'keepMost' keeps of the first k. -/
def kept (g L : Nat → Int) : Nat → List Int
  | 0 => []
  | k + 1 => if bst g k < g k then [L k] else if g k = bst g k then kept g L k ++ [L k] else kept g L k
/-- Of the first k those whose count is B. -/
def wnt (g L : Nat → Int) (B : Int) : Nat → List Int
  | 0 => []
  | k + 1 => if g k = B then wnt g L B k ++ [L k] else wnt g L B k

theorem kept_len (g L : Nat → Int) (k : Nat) : (kept g L k).length ≤ k := by
  induction k with
  | zero => simp [kept]
  | succ k ih => simp only [kept]; split
                 · simp
                 · split
                   · simp; omega
                   · omega
theorem wnt_len (g L : Nat → Int) (B : Int) (k : Nat) : (wnt g L B k).length ≤ k := by
  induction k with
  | zero => simp [wnt]
  | succ k ih => simp only [wnt]; split
                 · simp; omega
                 · omega
theorem bst_ge (g : Nat → Int) (k : Nat) : ∀ j, j < k → g j ≤ bst g k := by
  induction k with
  | zero => intro j hj; omega
  | succ k ih =>
    intro j hj
    simp only [bst]
    by_cases e : j = k
    · subst e; split <;> omega
    · have := ih j (by omega)
      split <;> omega
theorem bst_lo (g : Nat → Int) (k : Nat) : -1 ≤ bst g k := by
  induction k with
  | zero => simp [bst]
  | succ k ih => simp only [bst]; split <;> omega
theorem bst_hi (g : Nat → Int) (N : Int) (hN : 0 ≤ N) (h : ∀ j, g j ≤ N) (k : Nat) : bst g k ≤ N := by
  induction k with
  | zero => simp only [bst]; omega
  | succ k ih => simp only [bst]; have := h k; split <;> omega
theorem wnt_none (g L : Nat → Int) (B : Int) (k : Nat) (h : ∀ j, j < k → g j < B) : wnt g L B k = [] := by
  induction k with
  | zero => rfl
  | succ k ih =>
    simp only [wnt]
    have h1 := h k (by omega)
    rw [if_neg (by omega)]
    exact ih fun j hj => h j (by omega)
theorem kept_wnt (g L : Nat → Int) (k : Nat) : kept g L k = wnt g L (bst g k) k := by
  induction k with
  | zero => rfl
  | succ k ih =>
    simp only [kept, bst, wnt]
    by_cases h : bst g k < g k
    · simp only [h, if_true]
      rw [wnt_none g L (g k) k (fun j hj => by have := bst_ge g k j hj; omega)]
      rfl
    · simp only [h, if_false]
      by_cases e : g k = bst g k
      · simp only [e, if_true]; rw [ih]
      · simp only [e, if_false]; exact ih
theorem kept_nil (g L : Nat → Int) (k : Nat) (h0 : ∀ j, 0 ≤ g j) (hk : 0 < k) : kept g L k ≠ [] := by
  induction k with
  | zero => omega
  | succ k ih =>
    simp only [kept]
    by_cases h : bst g k < g k
    · simp [h]
    · simp only [h, if_false]
      by_cases e : g k = bst g k
      · simp [e]
      · simp only [e, if_false]
        refine ih ?_
        rcases Nat.eq_zero_or_pos k with rfl | h'
        · simp only [bst] at h; have := h0 0; omega
        · exact h'
end Go.Proofs.Ybulkexnno
