import Derived.Test.YbulkexnnoClone
import Derived.Test.YbulkexnnoPlain
import Derived.WalkSpells
namespace Go.Proofs.Ybulkexnno
open Go.RowKit

/-- What lies in memory for 'keepMost': the receiver M, its analyzer a, the box of 'unknown' u, the argument types' row, the candidates' rows. -/
structure Laid (κ : Nat → Int) (π : Nat → Bool) (M a u AT CT C A : Nat) (Ab Rb : Nat → Nat) (Qb : Nat → Nat → Nat) (w : World) : Prop where
  m0 : w.cell? ⟨M, 0, none⟩ = some (.pointer (some ⟨a, 0, none⟩))
  m1 : w.cell? ⟨M, 1, none⟩ = some (.slice (some ⟨CT, 0, none⟩) C C)
  m2 : w.cell? ⟨M, 2, none⟩ = some (.slice (some ⟨AT, 0, none⟩) A A)
  a1 : w.cell? ⟨a, 1, none⟩ = some (.pointer (some ⟨u, 0, none⟩))
  arg : ∀ i, i < A → w.cell? ⟨AT, i, none⟩ = some (.pointer (some ⟨Ab i, 0, none⟩))
  cand : ∀ c, c < C → w.cell? ⟨CT, c, none⟩ = some (.slice (some ⟨Rb c, 0, none⟩) A A)
  par : ∀ c i, c < C → i < A → w.cell? ⟨Rb c, i, none⟩ = some (.pointer (some ⟨Qb c i, 0, none⟩))
  tu : IsT w u (κ u) (π u)
  ta : ∀ i, i < A → IsT w (Ab i) (κ (Ab i)) (π (Ab i))
  tp : ∀ c i, c < C → i < A → IsT w (Qb c i) (κ (Qb c i)) (π (Qb c i))

theorem IsT.lt {w : World} {b : Nat} {c : Int} {p : Bool} (h : IsT w b c p) : b < w.heap.size := by
  obtain ⟨cs, h1, _⟩ := h
  rcases Nat.lt_or_ge b w.heap.size with h | h
  · exact h
  · rw [Array.getElem?_eq_none h] at h1; cases h1
theorem IsT.later {w w' : World} {b : Nat} {c : Int} {p : Bool} (h : IsT w b c p) (hb : Below w.heap.size w w') : IsT w' b c p := by
  have hl := h.lt
  obtain ⟨cs, h1, h2⟩ := h
  exact ⟨cs, by rw [hb.block b hl]; exact h1, h2⟩

variable {κ : Nat → Int} {π : Nat → Bool} {M a u AT CT C A : Nat} {Ab Rb : Nat → Nat} {Qb : Nat → Nat → Nat}

theorem Laid.later {w w' : World} (h : Laid κ π M a u AT CT C A Ab Rb Qb w) (hb : Below w.heap.size w w') : Laid κ π M a u AT CT C A Ab Rb Qb w' :=
  ⟨cell_later hb h.m0, cell_later hb h.m1, cell_later hb h.m2, cell_later hb h.a1, fun i hi => cell_later hb (h.arg i hi), fun c hc => cell_later hb (h.cand c hc),
   fun c i hc hi => cell_later hb (h.par c i hc hi), h.tu.later hb, fun i hi => (h.ta i hi).later hb, fun c i hc hi => (h.tp c i hc hi).later hb⟩

/-- Does argument i count for a candidate whose parameters' boxes are 'q'? -/
def yes (κ : Nat → Int) (π : Nat → Bool) (u : Nat) (Ab q : Nat → Nat) (i : Nat) : Bool := !decide (Ab i = u) && tst κ π (Ab i) (q i)

def gcount (κ : Nat → Int) (π : Nat → Bool) (u A : Nat) (Ab : Nat → Nat) (Qb : Nat → Nat → Nat) (L : Nat → Nat) (j : Nat) : Int := (cnt (yes κ π u Ab (Qb (L j))) A : Nat)

theorem ownBlock_ge {w : World} {base : Nat} {e : TypeId} {size : Nat} {v : Value} {n : Nat} {xs : List Value} (h : w.ownsRow base e size v n xs) {k : Nat} (hk : v.ownBlock = some k) : base ≤ k := by
  obtain ⟨_, ⟨rfl, _⟩ | ⟨g, cap, cur, rfl, hb, _⟩⟩ := h
  · simp [Value.ownBlock] at hk
  · simp [Value.ownBlock] at hk; omega

set_option maxHeartbeats 1000000 in
set_option maxRecDepth 100000 in
theorem keep_any (w : World) (p : Option Addr) (n c : Nat) (L : Nat → Nat) (h : Laid κ π M a u AT CT C A Ab Rb Qb w) (hA : A ≤ 256) (_hC : C ≤ 256) (hn : n ≤ 4096)
    (hl : Sees w p n (fun j => .int .i64 (L j))) (hL : ∀ j, j < n → L j < C) :
    Calls Yba.prog 10 #[.pointer (some ⟨M, 0, none⟩), .slice p n c, .func (.func 11) #[] #[]] w fun e w' => ∃ v, e = .returned v ∧
      w'.ownsRow w.heap.size 3 1 v (kept (gcount κ π u A Ab Qb L) (fun j => L j) n).length ((kept (gcount κ π u A Ab Qb L) (fun j => L j) n).map (Value.int .i64)) ∧
      Below w.heap.size w w' ∧ (n = 0 → v = .slice none 0 0) := by
  obtain ⟨i0, hi, hz0, hz1, hz2⟩ := info_parts Yba.info3
  go_enter Yba.func10, Yba.ntmps10
  go_wp2
  go_loopw [7, 8, 16] (fun v b i wr => ∃ k : Nat, k ≤ n ∧ i = .int .i64 k ∧ b = .int .i64 (bst (gcount κ π u A Ab Qb L) k) ∧
      wr.ownsRow w.heap.size 3 1 v (kept (gcount κ π u A Ab Qb L) (fun j => L j) k).length ((kept (gcount κ π u A Ab Qb L) (fun j => L j) k).map (Value.int .i64)) ∧
      Below w.heap.size w wr ∧ (k = 0 → v = .slice none 0 0))
    (fun _ _ i _ => n - (intOf i).toNat)
  case atStart => exact ⟨0, Nat.zero_le _, rfl, rfl, World.ownsRow_nil _ _ _ _, Below.refl _ _, fun _ => rfl⟩
  case round =>
    obtain ⟨k, hk, rfl, rfl, hown, hbel, hnil⟩ := hrel
    by_cases hlt : k < n
    · rcases hl with hl | ⟨b, o, rfl, hl⟩
      · omega
      have hlk : wr.cell? ⟨b, o + k, none⟩ = some (.int .i64 (L k)) := cell_later hbel (hl k hlt)
      have hLk := hL k hlt
      have hW := h.later hbel
      have m0 := hW.m0
      have m1 := hW.m1
      have m2 := hW.m2
      have a1 := hW.a1
      have Hnil : Hid (k = 0 → u7 = .slice none 0 0) := hnil
      have Hl : Hid (∀ i, i < n → w.cell? ⟨b, o + i, none⟩ = some (.int .i64 (L i))) := hl
      have HL : Hid (∀ j, j < n → L j < C) := hL
      clear hl hL hnil
      obtain ⟨c0, hc0⟩ : ∃ c0, c0 = L k := ⟨_, rfl⟩
      have Hc : Hid (c0 = L k) := hc0
      rw [← hc0] at hlk hLk
      clear hc0
      go_wp2_with fail
      go_loopg [11, 25] A (fun g s11 s25 wx => ∃ i q : Nat, i ≤ A ∧ A - i ≤ g ∧ s25 = .int .i64 i ∧ s11 = .int .i64 (cnt (yes κ π u Ab (Qb c0)) i) ∧ wx = wr.drewN q)
      case atStart => exact ⟨0, 0, Nat.zero_le _, by omega, rfl, rfl, rfl⟩
      case round =>
        obtain ⟨i, q, hiA, hg, rfl, rfl, rfl⟩ := hrel
        have hcl := cnt_le (yes κ π u Ab (Qb c0)) i
        by_cases hlt2 : i < A
        · have ci := hW.arg i hlt2
          have cc := hW.cand c0 hLk
          have cp := hW.par c0 i hLk hlt2
          have tu := hW.tu
          have ta := hW.ta i hlt2
          have tp := hW.tp c0 i hLk hlt2
          have hne := fun n : Nat => ptr_neq ta tu (wr.drewN n) rfl
          have hun := fun n : Nat => unknown_any M a u (wr.drewN n) m0 a1
          have hcl2 := fun n : Nat => closure_any κ π (Ab i) (Qb c0 i) (wr.drewN n) ta tp
          have hc1 : ((c0 : Int) < (C : Int)) := by omega
          have hu : yes κ π u Ab (Qb c0) i = (!decide (Ab i = u) && tst κ π (Ab i) (Qb c0 i)) := rfl
          by_cases hau : Ab i = u
          · have HS : Hid (cnt (yes κ π u Ab (Qb c0)) (i + 1) = cnt (yes κ π u Ab (Qb c0)) i) := by
              show cnt _ (i + 1) = _
              simp only [cnt]; rw [hu]; simp [hau]
            simp only [hau, decide_true] at hne
            rw [hau] at ci
            clear hu hau
            go_wp2_with fail
            refine (hun _).mono ?_
            rintro e w' ⟨rfl, rfl⟩
            go_wp2_with fail
            go_roundg (A - (i + 1))
            case measure => omega
            case rel => exact ⟨i + 1, _, by omega, by omega, by go_num, by rw [HS.out], rfl⟩
          · simp only [hau, decide_false] at hne
            generalize ht : tst κ π (Ab i) (Qb c0 i) = t at hcl2 hu
            have HS : Hid (cnt (yes κ π u Ab (Qb c0)) (i + 1) = if t then cnt (yes κ π u Ab (Qb c0)) i + 1 else cnt (yes κ π u Ab (Qb c0)) i) := by
              show cnt _ (i + 1) = _
              simp only [cnt]; rw [hu]; simp [hau]
            clear hu hau ht
            go_wp2_with fail
            refine (hun _).mono ?_
            rintro e w' ⟨rfl, rfl⟩
            go_wp2_with fail
            refine (hcl2 _).mono ?_
            rintro e w' ⟨rfl, mm, rfl⟩
            cases t
            · go_wp2_with fail
              go_roundg (A - (i + 1))
              case measure => omega
              case rel => exact ⟨i + 1, _, by omega, by omega, by go_num, by rw [HS.out]; rfl, rfl⟩
            · go_wp2_with fail
              go_roundg (A - (i + 1))
              case measure => omega
              case rel => exact ⟨i + 1, _, by omega, by omega, by go_num, by rw [HS.out]; go_num, rfl⟩
        · obtain rfl : A = i := by omega
          have hgk : gcount κ π u A Ab Qb L k = (cnt (yes κ π u Ab (Qb c0)) A : Nat) := by rw [Hc.out]; rfl
          have hlo := bst_lo (gcount κ π u A Ab Qb L) k
          have hhi := bst_hi (gcount κ π u A Ab Qb L) A (by omega) (fun j => by have := cnt_le (yes κ π u Ab (Qb (L j))) A; simp only [gcount]; omega) k
          have hln := kept_len (gcount κ π u A Ab Qb L) (fun j => L j) k
          have hbs : bst (gcount κ π u A Ab Qb L) (k + 1) = if bst (gcount κ π u A Ab Qb L) k < gcount κ π u A Ab Qb L k then gcount κ π u A Ab Qb L k else bst (gcount κ π u A Ab Qb L) k := rfl
          have hks : kept (gcount κ π u A Ab Qb L) (fun j => L j) (k + 1) = if bst (gcount κ π u A Ab Qb L) k < gcount κ π u A Ab Qb L k then [(L k : Int)] else if gcount κ π u A Ab Qb L k = bst (gcount κ π u A Ab Qb L) k then kept (gcount κ π u A Ab Qb L) (fun j => L j) k ++ [(L k : Int)] else kept (gcount κ π u A Ab Qb L) (fun j => L j) k := rfl
          rw [hgk] at hbs hks
          rw [← Hc.out] at hks
          generalize bst (gcount κ π u A Ab Qb L) k = B0 at *
          generalize kept (gcount κ π u A Ab Qb L) (fun j => L j) k = K0 at *
          generalize cnt (yes κ π u Ab (Qb c0)) A = N0 at *
          have HB := show Hid _ from hbs
          have HK := show Hid _ from hks
          clear hbs hks hgk m0 m1 m2 a1 hlk
          by_cases c1 : B0 < N0
          · go_wp2_with fail
            go_roundw
            case rel =>
              refine ⟨k + 1, by omega, by go_num, by rw [HB.out, if_pos c1], ?_, (below_drewN hbel q).alloc (by simpa using hbel.size) _, fun h => absurd h (by omega)⟩
              rw [HK.out, if_pos c1]
              exact World.ownsRow_lit (wr.drewN q) #[.int .i64 c0] 1 (by simpa using hbel.size) (by decide) rfl
            case measure => simp [intOf]; omega
          · by_cases c2 : (N0 : Int) = B0
            · have hq : ((N0 : Int) == B0) = true := beq_iff_eq.2 c2
              have C2 : Hid ((N0 : Int) = B0) := c2
              have hle : (N0 : Int) ≤ B0 := by omega
              clear c2 c1
              go_wp2_with (at_builtin; refine wpList_append_own _ rfl _ _ 37 rfl w.heap.size 3 i0 (.int .i64 0) 1 8 Yba.underlying37 hi hz0 hz1 hz2 rfl (by decide) u7 K0.length (K0.map (Value.int .i64)) rfl ?qown ⟨wr.heap.size, 0, none⟩ 1 1 [.int .i64 c0] rfl rfl ?qc1 ?qc2 ?qc3 ?qc4 ?qc5 ?_)
              case qown => exact ((show (wr.drewN q).ownsRow _ _ _ _ _ _ from hown)).alloc _
              case qc1 =>
                intro j u hj
                match j, hj with
                | 0, hj =>
                  simp at hj; subst hj
                  have e : (⟨wr.heap.size, 0, none⟩ : Addr).add 0 = ⟨wr.heap.size, 0, none⟩ := by simp [Addr.add]
                  rw [e]
                  exact cell_of_block (heap_alloc_new (wr.drewN q) _) rfl
              case qc2 => intro u hu; simp at hu; subst hu; rfl
              case qc3 => simp only [maxLen]; omega
              case qc4 => omega
              case qc5 => have := hbel.size; simp; omega
              intro v' w1 hown1 hgrow hnn
              have hb1 : Below w.heap.size w w1 := ((below_drewN hbel q).alloc (by simpa using hbel.size) _).grown hgrow (by have := hbel.size; simp; omega) (fun k hk => ownBlock_ge hown hk)
              have hown2 : w1.ownsRow w.heap.size 3 1 v' (K0 ++ [(c0 : Int)]).length ((K0 ++ [(c0 : Int)]).map (Value.int .i64)) := by simpa using hown1
              clear hown1 hgrow hown hnn hbel
              go_wp2_with fail
              go_roundw
              case rel =>
                refine ⟨k + 1, by omega, by go_num, by rw [HB.out, if_neg (by omega)], ?_, hb1, fun h => absurd h (by omega)⟩
                rw [HK.out, if_neg (by omega), if_pos C2.out]
                exact hown2
              case measure => simp [intOf]; omega
            · have hq : ((N0 : Int) == B0) = false := beq_eq_false_iff_ne.2 c2
              have hle : (N0 : Int) < B0 := by omega
              clear c2 c1
              go_wp2_with fail
              go_roundw
              case rel =>
                refine ⟨k + 1, by omega, by go_num, by rw [HB.out, if_neg (by omega)], ?_, below_drewN hbel q, fun h => absurd h (by omega)⟩
                rw [HK.out, if_neg (by omega), if_neg (by omega)]
                exact hown
              case measure => simp [intOf]; omega
    · have e : k = n := by omega
      subst e
      go_wp2
      exact bodyPost_ret (v := u7) (by simp [results, Yba.results10, go_sem]) rfl ⟨_, rfl, hown, hbel, hnil⟩

theorem most_any (w : World) (p : Option Addr) (n c : Nat) (L : Nat → Nat) (h : Laid κ π M a u AT CT C A Ab Rb Qb w) (hA : A ≤ 256) (hC : C ≤ 256) (hn : n ≤ 4096)
    (hl : Sees w p n (fun j => .int .i64 (L j))) (hL : ∀ j, j < n → L j < C) :
    Calls Yba.prog 6 #[.pointer (some ⟨M, 0, none⟩), .slice p n c] w fun e w' => ∃ v, e = .returned v ∧
      w'.ownsRow w.heap.size 3 1 v (kept (gcount κ π u A Ab Qb L) (fun j => L j) n).length ((kept (gcount κ π u A Ab Qb L) (fun j => L j) n).map (Value.int .i64)) ∧
      Below w.heap.size w w' ∧ (n = 0 → v = .slice none 0 0) := by
  go_enter Yba.func6, Yba.ntmps6
  go_wp2_with fail
  refine (keep_any w p n c L h hA hC hn hl hL).mono ?_
  rintro e w' ⟨v, rfl, H⟩
  replace H := show Hid _ from H
  go_wp2
  exact bodyPost_ret (v := v) (by simp [results, Yba.results6, go_sem]) rfl ⟨_, rfl, H.out⟩
end Go.Proofs.Ybulkexnno
