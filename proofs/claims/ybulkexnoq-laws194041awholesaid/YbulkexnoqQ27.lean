import Derived.Test.YbulkexnoqQ35
namespace Go.Proofs.Ybulkexnoq
open Go.RowKit
set_option linter.unusedVariables false
set_option linter.unusedSimpArgs false

def ap (x : Nat → Ent) (k : Nat) : Bool := (List.range k).all fun i => pos (x i)
theorem ap_succ (x : Nat → Ent) (k : Nat) : ap x (k + 1) = (ap x k && pos (x k)) := by simp [ap, List.range_succ]
theorem ap_true {x : Nat → Ent} {n : Nat} (h : ∀ i, i < n → pos (x i) = true) : ap x n = true := by
  simp only [ap, List.all_eq_true, List.mem_range]
  exact h
theorem ap_false {x : Nat → Ent} {n : Nat} (h : ∃ k, k < n ∧ pos (x k) = false) : ap x n = false := by
  obtain ⟨k, hk, hp⟩ := h
  cases e : ap x n
  · rfl
  · simp only [ap, List.all_eq_true, List.mem_range] at e
    rw [e k hk] at hp
    cases hp
def lcells (l : List Ent) : List Value := (List.range (l.length * 3)).map (cell3 (nth l))
theorem lcells_one (l : List Ent) (e : Ent) : lcells (l ++ [e]) = lcells l ++ [.string e.1, .int .i64 e.2.1, .int .u64 e.2.2] := by
  unfold lcells
  rw [List.length_append, List.length_singleton, show (l.length + 1) * 3 = l.length * 3 + 1 + 1 + 1 by omega, List.range_succ, List.range_succ, List.range_succ]
  simp only [List.map_append, List.map_cons, List.map_nil, List.append_assoc, List.cons_append, List.nil_append]
  rw [cell3_0, show l.length * 3 + 1 + 1 = l.length * 3 + 2 by omega, cell3_1, cell3_2, nth_last]
  congr 1
  refine List.map_congr_left fun q hq => cell3_congr ?_
  have := List.mem_range.1 hq
  exact nth_left (by omega)
theorem lt_of_block' {w : World} {b : Nat} {x : Obj} (h : w.heap[b]? = some x) : b < w.heap.size := by
  obtain ⟨hlt, _⟩ := Array.getElem?_eq_some_iff.1 h
  exact hlt
theorem own_later {w w' : World} {base e size n : Nat} {x : Value} {xs : List Value} (h : w.ownsRow base e size x n xs) (hb : Below w.heap.size w w') : w'.ownsRow base e size x n xs := by
  refine ⟨h.1, ?_⟩
  rcases id h.2 with h1 | ⟨g, cap, cur, e1, e2, e3, e4⟩
  · exact .inl h1
  · exact .inr ⟨g, cap, cur, e1, e2, by rw [hb.block g (lt_of_block' e3)]; exact e3, e4⟩
theorem own_block {w : World} {base e size n : Nat} {x : Value} {xs : List Value} (h : w.ownsRow base e size x n xs) : ∀ k, x.ownBlock = some k → base ≤ k := fun k hk => by
  rcases id h.2 with ⟨rfl, _⟩ | ⟨g, cap, cur, rfl, e2, _⟩
  · cases hk
  · simp [Value.ownBlock] at hk
    omega

/-- What Positive has left, in a world W behind it. -/
def Got (w0 : World) (K n : Nat) (x : Nat → Ent) (np gp : Option Addr) (W : World) : Prop :=
  ((∀ i, i < n → pos (x i) = true) ∧ gp = np) ∨
  ((∃ k, k < n ∧ pos (x k) = false) ∧ filt x n = [] ∧ gp = none) ∨
  ((∃ k, k < n ∧ pos (x k) = false) ∧ filt x n ≠ [] ∧ ∃ N2 g cap m F NP L c0, gp = some ⟨N2, 0, none⟩ ∧ np = some ⟨NP, 0, none⟩ ∧ Old NP L K n c0 x W ∧ NP ≠ N2 ∧ NP ≠ g ∧ L ≠ g ∧ K ≠ g ∧
    W.heap[N2]? = some (.cells #[.slice (some ⟨g, 0, none⟩) (filt x n).length cap] 39 (0, 0)) ∧ W.rowIs g 36 m F ∧ (filt x n).length * 3 ≤ m ∧ (∀ q, q < (filt x n).length * 3 → F q = cell3 (nth (filt x n)) q) ∧ w0.heap.size ≤ g)

theorem At3.lt {w : World} {b o n : Nat} {x : Nat → Ent} (h : At3 w b o n x) (hn : 0 < n) : b < w.heap.size := World.block_lt_of_cell? w _ (h 0 hn).1
theorem Got.later {w0 : World} {K n : Nat} {x : Nat → Ent} {np gp : Option Addr} {W W' : World} (h : Got w0 K n x np gp W) (hb : Below W.heap.size W W') : Got w0 K n x np gp W' := by
  rcases h with h | h | ⟨h1, h2, N2, g, cap, m, F, NP, L, c0, a1, a2, a3, a4, a5, a6, a7, a8, a9, a10, a11, a12⟩
  · exact .inl h
  · exact .inr (.inl h)
  · have h0 : 0 < n := by obtain ⟨k, hk, _⟩ := h1; omega
    exact .inr (.inr ⟨h1, h2, N2, g, cap, m, F, NP, L, c0, a1, a2, a3.far (hb.block _ (lt_of_block' a3.np)) (hb.block _ (a3.li.lt h0)) (hb.block _ (a3.ke.lt h0)), a4, a5, a6, a7, by rw [hb.block _ (lt_of_block' a8)]; exact a8, a9.of_block (hb.block _ a9.lt), a10, a11, a12⟩)

set_option maxRecDepth 100000 in
set_option maxHeartbeats 1000000 in
theorem t27 (w0 W : World) (G K n kc : Nat) (x : Nat → Ent) (np gp : Option Addr) (hn : n ≤ 1048576) (hG : W.cell? ⟨G, 4, none⟩ = some (.pointer gp)) (hk : At3 W K 0 n x) (hgot : Got w0 K n x np gp W) (hb : Below w0.heap.size w0 W)
    (u0 u1 u2 u3 u4 u5 u6 u7 u9 u10 u12 u14 u15 u16 u17 u18 u19 u20 u21 u22 u23 u24 u25 u26 u27 u28 u29 u30 u31 u32 u33 u34 u35 u36 u37 u38 u39 u40 u41 u42 u43 u44 u45 u46 u47 u48 u49 u50 u51 u52 u53 u54 u55 u56 u57 u58 u59 u60 u61 u62 u63 u64 u65 u66 u67 u68 u69 u70 u71 u72 u73 u74 u75 u76 u77 u78 u79 u80 u81 u82 u83 u84 u85 u86 u87 u88 u89 u90 u91 u92 u93 u94 u95 u96 u97 u98 u99 u100 u101 u102 u103 u104 u105 u106 u107 u108 u109 u110 u111 u112 u113 u114 u115 u116 u117 u118 u119 u120 u121 u122 u123 u124 u125 u126 u127 u128 u129 u130 u131 u132 u133 u134 u135 u136 u137 u138 u139 u140 u141 u142 u143 u144 u145 u146 u147 u148 u149 u150 u151 u152 u153 u154 u155 u156 u157 u158 u159 u160 u161 u162 u163 u164 u165 u166 u167 u168 u169 u170 u171 u172 u173 u174 u175 u176 u177 u178 u179 u180 u181 : Value) :
    Code.wp Yba.prog (chain 27 (Yba.f3.body.getD .skip)) (bodyPost Yba.prog Yba.f3 fun e w' => e = .returned (.bool true) ∧ Below w0.heap.size w0 w')
      ⟨#[u0, u1, u2, u3, u4, u5, u6, u7, .slice (some ⟨K, 0, none⟩) n kc, u9, u10, .pointer np, u12, .pointer (some ⟨G, 0, none⟩), u14, u15, u16, u17, u18, u19, u20, u21, u22, u23, u24, u25, u26, u27, u28, u29, u30, u31, u32, u33, u34, u35, u36, u37, u38, u39, u40, u41, u42, u43, u44, u45, u46, u47, u48, u49, u50, u51, u52, u53, u54, u55, u56, u57, u58, u59, u60, u61, u62, u63, u64, u65, u66, u67, u68, u69, u70, u71, u72, u73, u74, u75, u76, u77, u78, u79, u80, u81, u82, u83, u84, u85, u86, u87, u88, u89, u90, u91, u92, u93, u94, u95, u96, u97, u98, u99, u100, u101, u102, u103, u104, u105, u106, u107, u108, u109, u110, u111, u112, u113, u114, u115, u116, u117, u118, u119, u120, u121, u122, u123, u124, u125, u126, u127, u128, u129, u130, u131, u132, u133, u134, u135, u136, u137, u138, u139, u140, u141, u142, u143, u144, u145, u146, u147, u148, u149, u150, u151, u152, u153, u154, u155, u156, u157, u158, u159, u160, u161, u162, u163, u164, u165, u166, u167, u168, u169, u170, u171, u172, u173, u174, u175, u176, u177, u178, u179, u180, u181], []⟩ W := by
  conv => arg 2; whnf
  obtain ⟨i0, hi, hz0, hz1, hz2⟩ := info_parts Yba.info36
  have HG := show Hid _ from And.intro hG hgot
  have HKE := show Hid _ from hk
  have HP := show Hid _ from fun k V => posf_any (x k) V
  clear hG hgot hk
  go_wp2_with fail
  go_loopg [14, 15, 16] n (fun gh s14 s15 s16 wr => ∃ k : Nat, k ≤ n ∧ n - k ≤ gh ∧ s16 = .int .i64 k ∧ s15 = .bool (ap x k) ∧ Below W.heap.size W wr ∧ Hid (wr.ownsRow W.heap.size 36 3 s14 (filt x k).length (lcells (filt x k))))
  case atStart => exact ⟨0, Nat.zero_le _, by omega, rfl, rfl, Below.refl _ _, show Hid _ from ⟨rfl, .inl ⟨rfl, rfl⟩⟩⟩
  case round =>
    rename_i Kx hKx J1 J2 J3 J4
    have HK := show Hid _ from hKx
    clear hKx
    obtain ⟨k, hk, hg, rfl, rfl, hbel, HO⟩ := hrel
    by_cases hlt : k < n
    · obtain ⟨c0, c1, c2⟩ := At3.later (b := K) (o := 0) (n := n) (x := x) HKE.out hbel k hlt
      simp only [Nat.zero_add] at c0 c1 c2
      have e2 : decide ((k : Int) < (n : Int)) = true := decide_eq_true (by omega)
      go_wp2_with fail
      refine Calls.mono (HP.out k _) ?_
      rintro e w1 ⟨rfl, hb1⟩
      have hbel1 := hbel.trans (hb1.mono hbel.size)
      obtain ⟨d0, d1, d2⟩ := At3.later (b := K) (o := 0) (n := n) (x := x) HKE.out hbel1 k hlt
      simp only [Nat.zero_add] at d0 d1 d2
      have HO1 := show Hid _ from own_later HO.out hb1
      clear HO c0 c1 c2 hb1
      dsimp only
      cases hp : pos (x k)
      · go_wp2_with fail
        go_roundg (n - (k + 1))
        case measure => omega
        case rel => exact ⟨k + 1, by omega, by omega, by go_num, by rw [ap_succ, hp]; simp, hbel1, by rw [filt_neg hp]; exact HO1⟩
      · go_wp2_with (at_builtin; refine wpList_append_own _ rfl _ _ 32 rfl W.heap.size 36 i0 (.agg #[.string ⟨#[]⟩, .int .i64 0, .int .u64 0]) 3 32 Yba.underlying32 hi hz0 hz1 hz2 rfl (by decide) u14 (filt x k).length (lcells (filt x k)) rfl ?qown ⟨w1.heap.size, 0, none⟩ 1 1 [.string (x k).1, .int .i64 (x k).2.1, .int .u64 (x k).2.2] rfl ?qc0 ?qc1 ?qc2 ?qc3 ?qc4 ?qc5 ?_)
        case qown => exact own_later HO1.out ((Below.refl _ _).alloc (Nat.le_refl _) _)
        case qc0 => rfl
        case qc1 =>
          intro j u hj
          match j, hj with
          | 0, hj => simp at hj; subst hj; simp [Addr.add]
          | 1, hj => simp at hj; subst hj; simp [Addr.add]
          | 2, hj => simp at hj; subst hj; simp [Addr.add]
        case qc2 =>
          intro u hu
          simp at hu
          rcases hu with rfl | rfl | rfl <;> rfl
        case qc3 => have := filt_len x k; simp only [maxLen]; omega
        case qc4 => have := filt_len x k; omega
        case qc5 => have := hbel1.size; simp; omega
        intro v' w2 hown hgrow hnn
        have hbel2 : Below W.heap.size W w2 := (hbel1.alloc hbel1.size _).grown hgrow (by have := hbel1.size; simp; omega) (own_block HO1.out)
        have HO2 := show Hid _ from hown
        clear hown hgrow hnn HO1
        go_wp2_with fail
        go_roundg (n - (k + 1))
        case measure => omega
        case rel => exact ⟨k + 1, by omega, by omega, by go_num, by rw [ap_succ, hp]; simp, hbel2, by rw [filt_pos hp, lcells_one, List.length_append]; exact HO2⟩
    · obtain rfl : k = n := by omega
      have e2 : decide ((k : Int) < (k : Int)) = false := decide_eq_false (by omega)
      go_wp2_with fail
      refine HK.out _ _ ?_
      have hGw := cell_later hbel HG.out.1
      have hbw := hb.trans (hbel.mono hb.size)
      rcases Got.later HG.out.2 hbel with ⟨h1, h2⟩ | ⟨h1, hf, h2⟩ | ⟨h1, hf, N2, g, cap, m, F, NP, L, c0, a1, a2, a3, a4, a5, a6, a7, a8, a9, a10, a11, a12⟩
      · rw [ap_true h1]
        subst h2
        apply t35a w0 wr G gp hGw hbw
      · rw [ap_false h1]
        subst h2
        have ho := HO.out
        rw [hf] at ho
        rcases ho.2 with ⟨rfl, _⟩ | ⟨g', cap', cur, rfl, _⟩
        · apply t35b w0 wr G 0 none hGw hbw
        · apply t35b w0 wr G cap' (some ⟨g', 0, none⟩) hGw hbw
      · rw [ap_false h1]
        have h0 : 0 < k := by obtain ⟨j, hj, _⟩ := h1; omega
        have hl0 : (filt x k).length ≠ 0 := fun h => hf (List.length_eq_zero_iff.1 h)
        have hll := filt_len x k
        obtain ⟨Wb, wc, F', rfl, _, hwc, _, hrw, hF'⟩ := own_rows (w := wr) (x := nth (filt x k)) (by omega) HO.out
        subst a1 a2
        apply t35c w0 wr G NP L K k c0 kc g (filt x k).length cap m Wb wc N2 x (nth (filt x k)) F hGw a8 hl0 h0 hn a3 a9 a10 (by omega) a11 (at_row hrw (by omega) hF') a4 a5 a6 a7 hbw a12
end Go.Proofs.Ybulkexnoq
