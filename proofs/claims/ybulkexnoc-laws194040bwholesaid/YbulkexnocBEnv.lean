import Derived.Test.YbulkexnocBNats
namespace Go.Proofs.Ybulkexnoc
open Go.RowKit

theorem below_next {V W W' : World} (h : Below V.heap.size V W) (k : Below W.heap.size W W') : Below V.heap.size V W' := h.trans (k.mono h.size)
theorem lt_of_block' {w : World} {b : Nat} {x : Obj} (h : w.heap[b]? = some x) : b < w.heap.size := by
  obtain ⟨hlt, _⟩ := Array.getElem?_eq_some_iff.1 h
  exact hlt

/-- One released bindings value: what of it the law looks at. -/
def EnvAt (T O prev : Bool) (N : Nat) (s : Nat → ByteArray) (v : Nat → Int) (e pe : Nat) (w : World) : Prop :=
  ∃ (F : Nat → Value) (g o cap : Nat) (tm im : Option Nat), w.rowIs e 45 8 F ∧ F 0 = .map tm ∧ tm.isSome = T ∧ F 1 = .slice (some ⟨g, o, none⟩) N cap ∧ F 2 = .map im ∧ im.isSome = decide (2 < N) ∧
    F 7 = (if O && prev then ptr pe else .pointer none) ∧ (∀ j, j < N → w.cell? ⟨g, o + j * 2, none⟩ = some (.string (s j)) ∧ w.cell? ⟨g, o + j * 2 + 1, none⟩ = some (.int .i64 (v j))) ∧
    (g = e ∨ ∃ cg, w.heap[g]? = some (.cells cg 42 (0, 0)))

variable {T O prev : Bool} {N : Nat} {s : Nat → ByteArray} {v : Nat → Int} {e pe : Nat}

theorem EnvAt.keep {w w' : World} (h : EnvAt T O prev N s v e pe w) (h1 : w'.heap[e]? = w.heap[e]?) (h2 : ∀ (b : Nat) (c : Array Value), w.heap[b]? = some (Obj.cells c 42 (0, 0)) → w'.heap[b]? = w.heap[b]?) : EnvAt T O prev N s v e pe w' := by
  obtain ⟨F, g, o, cap, tm, im, a1, a2, a3, a4, a5, a6, a7, a8, a9⟩ := h
  have hg : w'.heap[g]? = w.heap[g]? := by
    rcases a9 with rfl | ⟨cg, hc⟩
    · exact h1
    · exact h2 g cg hc
  refine ⟨F, g, o, cap, tm, im, a1.of_block h1, a2, a3, a4, a5, a6, a7, fun j hj => ?_, ?_⟩
  · have := a8 j hj
    exact ⟨(World.cell?_of_block (w := w) hg).trans this.1, (World.cell?_of_block (w := w) hg).trans this.2⟩
  · rcases a9 with rfl | ⟨cg, hc⟩
    · exact .inl rfl
    · exact .inr ⟨cg, hg.trans hc⟩
theorem EnvAt.lt {w : World} (h : EnvAt T O prev N s v e pe w) : e < w.heap.size := by
  obtain ⟨F, g, o, cap, tm, im, a1, _⟩ := h
  exact a1.lt
theorem EnvAt.later {w w' : World} (h : EnvAt T O prev N s v e pe w) (hb : Below w.heap.size w w') : EnvAt T O prev N s v e pe w' :=
  h.keep (hb.block e h.lt) (fun b _ hc => hb.block b (lt_of_block' hc))
theorem EnvAt.tag {w : World} (h : EnvAt T O prev N s v e pe w) : ∃ c, w.heap[e]? = some (.cells c 45 (0, 0)) := by
  obtain ⟨F, g, o, cap, tm, im, ⟨c, hc, _⟩, _⟩ := h
  exact ⟨c, hc⟩

/-- The envs as they came in. -/
structure Dat where
  An : Nat → Option Addr
  Nn : Nat → Nat
  Nc : Nat → Nat
  Am : Nat → Option Addr
  Mn : Nat → Nat
  Mc : Nat → Nat
  T : Nat → Bool
  O : Nat → Bool
  S : Nat → Nat → ByteArray
  Z : Nat → Nat → Int

/-- The number that goes with name j of env i. -/
def Dat.num (d : Dat) (i j : Nat) : Int := if d.Mn i = 0 then (j : Int) else d.Z i (j % d.Mn i)

def Sees (w : World) (p : Option Addr) (n : Nat) (f : Nat → Value) : Prop :=
  n = 0 ∨ ∃ b o, p = some ⟨b, o, none⟩ ∧ ∀ i, i < n → w.cell? ⟨b, o + i, none⟩ = some (f i)
theorem Sees.later {w w' : World} {p : Option Addr} {n : Nat} {f : Nat → Value} (h : Sees w p n f) (hb : Below w.heap.size w w') : Sees w' p n f := by
  rcases h with h | ⟨b, o, e, h⟩
  · exact .inl h
  · exact .inr ⟨b, o, e, fun i hi => cell_later hb (h i hi)⟩

def SeesE (w : World) (p : Option Addr) (n : Nat) (d : Dat) : Prop :=
  n = 0 ∨ ∃ b o, p = some ⟨b, o, none⟩ ∧ ∀ i, i < n → w.cell? ⟨b, o + i * 4, none⟩ = some (.slice (d.An i) (d.Nn i) (d.Nc i)) ∧ w.cell? ⟨b, o + i * 4 + 1, none⟩ = some (.slice (d.Am i) (d.Mn i) (d.Mc i)) ∧
    w.cell? ⟨b, o + i * 4 + 2, none⟩ = some (.bool (d.T i)) ∧ w.cell? ⟨b, o + i * 4 + 3, none⟩ = some (.bool (d.O i)) ∧
    Sees w (d.An i) (d.Nn i) (fun j => .string (d.S i j)) ∧ Sees w (d.Am i) (d.Mn i) (fun j => .int .i64 (d.Z i j))
theorem SeesE.later {w w' : World} {p : Option Addr} {n : Nat} {d : Dat} (h : SeesE w p n d) (hb : Below w.heap.size w w') : SeesE w' p n d := by
  rcases h with h | ⟨b, o, e, h⟩
  · exact .inl h
  · refine .inr ⟨b, o, e, fun i hi => ?_⟩
    obtain ⟨a1, a2, a3, a4, a5, a6⟩ := h i hi
    exact ⟨cell_later hb a1, cell_later hb a2, cell_later hb a3, cell_later hb a4, a5.later hb, a6.later hb⟩

def ptrs (E : Nat → Nat) (k : Nat) : List Value := (List.range k).map (fun i => ptr (E i))
theorem ptrs_succ (E : Nat → Nat) (k : Nat) : ptrs E (k + 1) = ptrs E k ++ [ptr (E k)] := by simp [ptrs, List.range_succ]
theorem ptrs_congr {E E' : Nat → Nat} {k : Nat} (h : ∀ i, i < k → E i = E' i) : ptrs E k = ptrs E' k := by
  unfold ptrs
  exact List.map_congr_left (fun i hi => by rw [h i (List.mem_range.1 hi)])

/-- The spare list's value ahead of the first release. -/
def sv0 (nil : Bool) (B : Nat) : Value := if nil then .slice none 0 0 else .slice (some ⟨B, 0, none⟩) 0 0

/-- k envs have been released. W: the world ahead of 'ptrs := make(..)'. -/
structure R2 (d : Dat) (W : World) (n : Nat) (nil : Bool) (k : Nat) (E : Nat → Nat) (sv : Value) (wr : World) : Prop where
  bel : Below W.heap.size W wr
  siz : W.heap.size + 2 ≤ wr.heap.size
  pt : wr.ownsRow W.heap.size 30 1 (.slice (some ⟨W.heap.size, 0, none⟩) k n) k (ptrs E k)
  bb : wr.heap[W.heap.size + 1]? = some (.cells #[sv] 29 (0, 0))
  sp : wr.ownsRow (W.heap.size + 2) 30 1 sv k (ptrs E k)
  zero : k = 0 → sv = sv0 nil (W.heap.size + 2)
  env : ∀ i, i < k → EnvAt (d.T i) (d.O i) (decide (0 < i)) (d.Nn i) (d.S i) (d.num i) (E i) (E (i - 1)) wr
  inj : ∀ i j, i < j → j < k → E i ≠ E j
  old : ∀ i, i < k → W.heap.size ≤ E i

theorem own_tag {w : World} {base el size n g cap : Nat} {xs : List Value} (h : w.ownsRow base el size (.slice (some ⟨g, 0, none⟩) n cap) n xs) : ∃ c, w.heap[g]? = some (.cells c el (0, 0)) := by
  rcases h.2 with ⟨e, _⟩ | ⟨g1, cap1, cur, e, _, hh, _⟩
  · cases e
  · injection e with e1 e2 e3
    injection e1 with e1
    injection e1 with e1
    subst e1
    exact ⟨cur, hh⟩
theorem own_tag_some {w : World} {base el size n b : Nat} {x : Value} {xs : List Value} (h : w.ownsRow base el size x n xs) (hb : x.ownBlock = some b) : ∃ c, w.heap[b]? = some (.cells c el (0, 0)) := by
  rcases h.2 with ⟨rfl, _⟩ | ⟨g1, cap1, cur, rfl, _, hh, _⟩
  · cases hb
  · simp [Value.ownBlock] at hb
    subst hb
    exact ⟨cur, hh⟩
theorem own_later {w w' : World} {base e size n : Nat} {x : Value} {xs : List Value} (h : w.ownsRow base e size x n xs) (hb : Below w.heap.size w w') : w'.ownsRow base e size x n xs := by
  refine ⟨h.1, ?_⟩
  rcases id h.2 with h1 | ⟨g, cap, cur, e1, e2, e3, e4⟩
  · exact .inl h1
  · exact .inr ⟨g, cap, cur, e1, e2, by rw [hb.block g (lt_of_block' e3)]; exact e3, e4⟩

/-- A round's end: a new env stands in w1; then 'ptrs' and the spare list take it. -/
theorem R2.step {d : Dat} {W : World} {n : Nat} {nil : Bool} {k : Nat} {E : Nat → Nat} {sv : Value} {wr w1 w2 w3 : World} {En : Nat} {ob : Obj} {g cap : Nat}
    (h : R2 d W n nil k E sv wr) (h1 : Below wr.heap.size wr w1) (hn : EnvAt (d.T k) (d.O k) (decide (0 < k)) (d.Nn k) (d.S k) (d.num k) En (E (k - 1)) w1) (hEn : wr.heap.size ≤ En)
    (h2o : w2.ownsRow W.heap.size 30 1 (.slice (some ⟨W.heap.size, 0, none⟩) (k + 1) n) (k + 1) (ptrs E k ++ [ptr En])) (h2 : (w1.alloc ob).grownBy w2 (some W.heap.size))
    (h3b : w3.heap[W.heap.size + 1]? = some (.cells #[.slice (some ⟨g, 0, none⟩) (k + 1) cap] 29 (0, 0)))
    (h3o : w3.ownsRow (W.heap.size + 2) 30 1 (.slice (some ⟨g, 0, none⟩) (k + 1) cap) (k + 1) (ptrs E k ++ [ptr En]))
    (h3 : ∀ b, b < w2.heap.size → b ≠ W.heap.size + 1 → sv.ownBlock ≠ some b → w3.heap[b]? = w2.heap[b]?) (h3w : Below (W.heap.size + 1) w2 w3) :
    R2 d W n nil (k + 1) (fun i => if i = k then En else E i) (.slice (some ⟨g, 0, none⟩) (k + 1) cap) w3 := by
  have hs := h.siz
  have hs1 := h1.size
  have hs2 : w1.heap.size + 1 ≤ w2.heap.size := by have := h2.size; simpa using this
  have hs3 := h3w.size
  have tagP := own_tag (own_later h.pt h1)
  have bb1 : w1.heap[W.heap.size + 1]? = some (.cells #[sv] 29 (0, 0)) := by rw [h1.block _ (by omega)]; exact h.bb
  have sp1 := own_later h.sp h1
  have same2 : ∀ b, b < w1.heap.size → b ≠ W.heap.size → w2.heap[b]? = w1.heap[b]? := fun b hb hne => by
    rw [h2.block b (by simp; omega) (by simp [hne]), Below.heap_alloc _ _ _ hb]
  have keep : ∀ (b : Nat) (c : Array Value) (t : TypeId), (t = 45 ∨ t = 42) → w1.heap[b]? = some (Obj.cells c t (0, 0)) → w3.heap[b]? = w1.heap[b]? := by
    intro b c t ht hb
    have hlt := lt_of_block' hb
    have n1 : b ≠ W.heap.size := by
      rintro rfl
      obtain ⟨c', hc'⟩ := tagP
      rw [hb] at hc'; injection hc' with hc'; injection hc' with _ e2 _; rcases ht with rfl | rfl <;> cases e2
    have n2 : b ≠ W.heap.size + 1 := by
      rintro rfl
      rw [hb] at bb1; injection bb1 with e; injection e with _ e2 _; rcases ht with rfl | rfl <;> cases e2
    have n3 : sv.ownBlock ≠ some b := by
      intro e
      obtain ⟨c', hc'⟩ := own_tag_some sp1 e
      rw [hb] at hc'; injection hc' with hc'; injection hc' with _ e2 _; rcases ht with rfl | rfl <;> cases e2
    rw [h3 b (by omega) n2 n3, same2 b hlt n1]
  have keepE : ∀ {T O prev N s v e pe}, EnvAt T O prev N s v e pe w1 → EnvAt T O prev N s v e pe w3 := fun {T O prev N s v e pe} he => by
    obtain ⟨c, hc⟩ := he.tag
    exact he.keep (keep e c 45 (.inl rfl) hc) (fun b c hb => keep b c 42 (.inr rfl) hb)
  have elist : ptrs E k ++ [ptr En] = ptrs (fun i => if i = k then En else E i) (k + 1) := by
    rw [ptrs_succ]
    simp only [if_true]
    congr 1
    exact ptrs_congr (fun i hi => by rw [if_neg (by omega)])
  have hb2 : Below W.heap.size W w2 := ((h.bel.trans (h1.mono (by omega))).alloc (by omega) ob).grown h2 (by simp; omega) (fun b hb => by injection hb with hb; omega)
  refine ⟨hb2.trans (h3w.mono (by omega)), by omega, ?_, h3b, elist ▸ h3o, fun h0 => by omega, ?_, ?_, ?_⟩
  · rw [← elist]
    refine ⟨h2o.1, ?_⟩
    rcases id h2o.2 with ⟨e, _⟩ | ⟨g', cap', cur, e1, e2, e3, e4⟩
    · cases e
    · refine .inr ⟨g', cap', cur, e1, e2, ?_, e4⟩
      injection e1 with e1
      injection e1 with e1
      injection e1 with e1
      subst e1
      rw [h3w.block _ (by omega)]; exact e3
  · intro i hi
    by_cases e : i = k
    · subst e
      have : ∀ x : Nat, (if i - 1 = i then x else E (i - 1)) = E (i - 1) ∨ i = 0 := fun x => by
        rcases Nat.eq_zero_or_pos i with h0 | h0
        · exact .inr h0
        · exact .inl (by rw [if_neg (by omega)])
      simp only [if_true]
      rcases this En with e1 | e1
      · rw [e1]; exact keepE hn
      · subst e1
        have := keepE hn
        obtain ⟨F, g, o, cap, tm, im, a1, a2, a3, a4, a5, a6, a7, a8, a9⟩ := this
        exact ⟨F, g, o, cap, tm, im, a1, a2, a3, a4, a5, a6, by rw [a7]; simp, a8, a9⟩
    · have e1 : ¬ (i - 1 = k) := by omega
      simp only [e, e1, if_false]
      exact keepE ((h.env i (by omega)).later h1)
  · intro i j hij hj
    by_cases e : j = k
    · subst e
      simp only [if_true, show ¬ (i = j) by omega, if_false]
      have := (h.env i hij).lt
      omega
    · simp only [e, show ¬ (i = k) by omega, if_false]
      exact h.inj i j hij (by omega)
  · intro i hi
    by_cases e : i = k
    · simp only [e, if_true]
      omega
    · simp only [e, if_false]
      exact h.old i (by omega)
end Go.Proofs.Ybulkexnoc
