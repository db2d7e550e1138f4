import Derived.Test.YbulkexnoqRFind
namespace Go.Proofs.Ybulkexnoq
open Go.RowKit
set_option linter.unusedVariables false
set_option linter.unusedSimpArgs false

theorem own_rows' {w' : World} {n base : Nat} {x : Nat → Ent} {v' : Value} (hv : v' ≠ .slice none 0 0) (h : w'.ownsRow base 36 3 v' n ((List.range (n * 3)).map (cell3 x))) :
    ∃ g cap, v' = .slice (some ⟨g, 0, none⟩) n cap ∧ base ≤ g ∧ Row w' g (cap * 3) n x := by
  obtain ⟨hl, h⟩ := id h
  rcases h with ⟨h, h0⟩ | ⟨g, cap, cur, rfl, hb, hh, hnc, hm, hs, ht⟩
  · exact absurd h hv
  · refine ⟨g, cap, rfl, hb, fun q => cur.getD q undef, ⟨cur, hh, hs, fun q hq => ?_⟩, by omega, fun q hq => ?_⟩
    · rw [Array.getElem?_eq_getElem (by omega)]
      simp [Array.getD, show q < cur.size by omega]
    · have e1 : (cur.toList.take (n * 3))[q]? = some (cell3 x q) := by
        rw [ht]; simp [hq]
      rw [List.getElem?_take, if_pos hq] at e1
      have e2 : cur[q]? = some (cell3 x q) := by simpa using e1
      show cur.getD q undef = _
      rw [Array.getD_eq_getD_getElem?, e2]
      rfl

set_option maxRecDepth 100000 in
set_option maxHeartbeats 400000 in
theorem clone_all (b o n c : Nat) (x : Nat → Ent) (w : World) (hn : n ≤ 1048576) (h1 : At3 w b o n x) (hb : b < w.heap.size) :
    Calls Yba.prog 13 #[.slice (some ⟨b, o, none⟩) n c] w fun e w' => ∃ g cap, e = .returned (.slice (some ⟨g, 0, none⟩) n cap) ∧ w.heap.size ≤ g ∧ At3 w' g 0 n x ∧ Below w.heap.size w w' := by
  obtain ⟨i0, hi, hz0, hz1, hz2⟩ := info_parts Yba.info36
  have hs : ∀ W : World, (binOp .eql 32 (.slice (some ⟨b, o, none⟩) n c) (.slice none 0 0)).run Yba.prog W = .ok (.bool false) W := fun _ => by kernel_rfl
  go_enter Yba.func13, Yba.ntmps13
  go_wp2_with (at_builtin; refine wpList_append_own _ rfl _ _ 32 rfl w.heap.size 36 i0 (.agg #[.string ⟨#[]⟩, .int .i64 0, .int .u64 0]) 3 32 Yba.underlying32 hi hz0 hz1 hz2 rfl (by decide) _ 0 [] rfl ?qown ⟨b, o, none⟩ n c ((List.range (n * 3)).map (cell3 x)) rfl ?c0 ?c1 ?c2 ?c3 ?c4 ?c5 ?_)
  case qown => exact World.ownsRow_lit w #[] 0 (Nat.le_refl _) (by decide) rfl
  case c0 => simp
  case c1 =>
    intro j u hj
    have hjn : j < n * 3 := by
      rcases Nat.lt_or_ge j (n * 3) with h | h
      · exact h
      · simp [h] at hj
    simp [hjn] at hj
    subst hj
    have e : (⟨b, o, none⟩ : Addr).add j = ⟨b, o + j, none⟩ := by unfold Addr.add; split <;> simp_all
    rw [e, World.cell?_alloc_lt _ _ _ hb]
    obtain ⟨a0, a1, a2⟩ := h1 (j / 3) (by omega)
    have h3 : j = j / 3 * 3 ∨ j = j / 3 * 3 + 1 ∨ j = j / 3 * 3 + 2 := by omega
    rcases h3 with h3 | h3 | h3
    · rw [h3, cell3_0]; exact a0
    · rw [h3, cell3_1, ← Nat.add_assoc]; exact a1
    · rw [h3, cell3_2, ← Nat.add_assoc]; exact a2
  case c2 => intro u hu; simp at hu; obtain ⟨i, _, rfl⟩ := hu; exact cell3_one x i
  case c3 => simp only [maxLen]; omega
  case c4 => omega
  case c5 => simp
  intro v' w1 hown hgrow hnn
  have hnil : v' ≠ .slice none 0 0 := by simpa using hnn
  obtain ⟨g, cap, rfl, hg, hr⟩ := own_rows' hnil hown
  have hbel : Below w.heap.size w w1 := ((Below.refl _ _).alloc (Nat.le_refl _) _).grown hgrow (by simp) (fun k hk => by simp [Value.ownBlock] at hk; omega)
  have H := show Hid _ from hr
  clear hown hgrow hnn hs h1 hr hnil
  go_wp2_with fail
  go_ret
  exact ⟨g, cap, by simp, hg, Row.at3 H.out, hbel⟩

set_option maxRecDepth 100000 in
set_option maxHeartbeats 1000000 in
theorem equal_any (U K n c0 c1 : Nat) (x : Nat → Ent) (w : World) (hn : n ≤ 1048576) (h1 : At3 w U 0 n x) (h2 : At3 w K 0 n x) :
    Calls Yba.prog 15 #[.slice (some ⟨U, 0, none⟩) n c0, .slice (some ⟨K, 0, none⟩) n c1] w fun e w' => e = .returned (.bool true) ∧ ∃ q, w' = w.drewN q := by
  have HX := show Hid _ from And.intro h1 h2
  have n36 := fun i => Yba.neq36 (x i).1 (x i).2.1 (x i).2.2
  clear h1 h2
  go_enter Yba.func15, Yba.ntmps15
  go_wp2_with fail
  go_loopg [13] n (fun g s13 wr => ∃ k q : Nat, k ≤ n ∧ n - k ≤ g ∧ s13 = .int .i64 k ∧ wr = w.drewN q)
  case atStart => exact ⟨0, 0, Nat.zero_le _, by omega, rfl, rfl⟩
  case round =>
    obtain ⟨k, m, hk, hg, rfl, rfl⟩ := hrel
    by_cases hlt : k < n
    · obtain ⟨a0, a1, a2⟩ := HX.out.1 k hlt
      obtain ⟨b0, b1, b2⟩ := HX.out.2 k hlt
      simp only [Nat.zero_add] at a0 a1 a2 b0 b1 b2
      have e2 : decide ((k : Int) < (n : Int)) = true := decide_eq_true (by omega)
      go_wp2_with fail
      go_quiet (fail)
      go_wp2_with fail
      go_roundg (n - (k + 1))
      case measure => omega
      case rel => exact ⟨k + 1, _, by omega, by omega, by go_num, rfl⟩
    · obtain rfl : k = n := by omega
      have e2 : decide ((k : Int) < (k : Int)) = false := decide_eq_false (by omega)
      go_wp2_with fail
      go_ret
      exact ⟨rfl, m, rfl⟩

/-- Strictly ascending. -/
def Str (z : Nat → Ent) (k : Nat) : Prop := ∀ i j, i < j → j < k → lt (z i) (z j) = true
/-- The first place with that name. -/
def At (z : Nat → Ent) (k : Nat) (q : ByteArray) (i : Nat) : Prop := i < k ∧ (z i).1 = q
theorem lt_cmp {x y : Ent} : lt x y = true ↔ cmp x.1 y.1 < 0 := by simp [lt]
/-- Found where it stands. -/
theorem hit_at {z : Nat → Ent} {k : Nat} {q : ByteArray} {i i0 : Nat} {fd : Bool} (hs : Str z k) (h : Hit z k q i fd) (h0 : At z k q i0) : fd = true ∧ i = i0 := by
  obtain ⟨h1, h2, h3, h4⟩ := h
  obtain ⟨k1, rfl⟩ := h0
  have e : i = i0 := by
    rcases Nat.lt_trichotomy i i0 with c | c | c
    · exfalso
      rcases h3 with h3 | h3
      · omega
      · have := lt_cmp.1 (hs i i0 c k1)
        omega
    · exact c
    · exfalso
      rcases h2 with h2 | h2
      · omega
      · have hl := lt_cmp.2 h2
        rcases Nat.lt_or_ge i0 (i - 1) with c2 | c2
        · have := lt_asymm (hs i0 (i - 1) c2 (by omega))
          rw [this] at hl
          cases hl
        · have : i - 1 = i0 := by omega
          rw [this, lt_irrefl] at hl
          cases hl
  subst e
  exact ⟨h4.2 ⟨k1, cmp_zero.2 rfl⟩, rfl⟩
/-- Not found where it does not stand. -/
theorem hit_none {z : Nat → Ent} {k : Nat} {q : ByteArray} {i : Nat} {fd : Bool} (h : Hit z k q i fd) (h0 : ∀ j, j < k → (z j).1 ≠ q) : fd = false := by
  obtain ⟨h1, h2, h3, h4⟩ := h
  cases fd
  · rfl
  · obtain ⟨a, b⟩ := h4.1 rfl
    exact absurd (cmp_zero.1 b) (h0 i a)
end Go.Proofs.Ybulkexnoq
