import Derived.Test.YbulkexnoqRU20
import Derived.Laws.MakeOwn
namespace Go.Proofs.Ybulkexnoq
open Go.RowKit
set_option linter.unusedVariables false
set_option linter.unusedSimpArgs false

def made3b (n : Nat) : Array Value := madeCells #[.string ⟨#[]⟩, .int .i64 0, .int .u64 0] (n * 3)
theorem make0 (n : Nat) (hn : n ≤ 1048576) (V : World) : (Instr.makeSlice 32 (.int .i64 0) (.int .i64 (n : Int))).run Yba.prog V = .ok (.slice (some ⟨V.heap.size, 0, none⟩) 0 n) (V.alloc (.cells (made3b n) 36)) := by
  obtain ⟨i0, hi, hz0, hz1, hz2⟩ := info_parts Yba.info36
  have hr := run_make (P := Yba.prog) V 32 36 i0 _ Yba.underlying32 hi hz0 .i64 .i64 0 n (by omega) (by omega) (by rw [hz2]; omega) (by omega)
  simp only [Int.toNat_natCast, hz1] at hr
  exact hr
def lcells2 (l : List Ent) : List Value := (List.range (l.length * 3)).map (cell3 (nth l))
theorem lcells2_one (l : List Ent) (e : Ent) : lcells2 (l ++ [e]) = lcells2 l ++ [.string e.1, .int .i64 e.2.1, .int .u64 e.2.2] := by
  unfold lcells2
  rw [List.length_append, List.length_singleton, show (l.length + 1) * 3 = l.length * 3 + 1 + 1 + 1 by omega, List.range_succ, List.range_succ, List.range_succ]
  simp only [List.map_append, List.map_cons, List.map_nil, List.append_assoc, List.cons_append, List.nil_append]
  rw [cell3_0, show l.length * 3 + 1 + 1 = l.length * 3 + 2 by omega, cell3_1, cell3_2, nth_last]
  congr 1
  refine List.map_congr_left fun q hq => cell3_congr ?_
  have := List.mem_range.1 hq
  exact nth_left (by omega)
/-- v owns the list l, and is not nil. -/
def OwnN (w : World) (base : Nat) (v : Value) (l : List Ent) : Prop := w.ownsRow base 36 3 v l.length (lcells2 l) ∧ v ≠ .slice none 0 0
theorem OwnN.start (w : World) (n : Nat) (hn : n ≤ 1048576) : OwnN (w.alloc (.cells (made3b n) 36)) w.heap.size (.slice (some ⟨w.heap.size, 0, none⟩) 0 n) [] :=
  ⟨World.ownsRow_made w _ n (Nat.le_refl _) (by simp only [maxLen]; omega) (size_madeCells _ _), fun h => by cases h⟩
theorem OwnN.later {w w' : World} {base : Nat} {v : Value} {l : List Ent} (h : OwnN w base v l) (hb : Below w.heap.size w w') : OwnN w' base v l := by
  refine ⟨⟨h.1.1, ?_⟩, h.2⟩
  rcases id h.1.2 with h1 | ⟨g, cap, cur, e1, e2, e3, e4⟩
  · exact .inl h1
  · exact .inr ⟨g, cap, cur, e1, e2, by rw [hb.block g (lt_of_block'' e3)]; exact e3, e4⟩
theorem OwnN.base {w : World} {base : Nat} {v : Value} {l : List Ent} (h : OwnN w base v l) : ∀ k, v.ownBlock = some k → base ≤ k := fun k hk => by
  rcases id h.1.2 with ⟨rfl, _⟩ | ⟨g, cap, cur, rfl, e2, _⟩
  · cases hk
  · simp [Value.ownBlock] at hk
    omega
theorem OwnN.row {w : World} {base : Nat} {v : Value} {l : List Ent} (h : OwnN w base v l) : ∃ g cap, v = .slice (some ⟨g, 0, none⟩) l.length cap ∧ base ≤ g ∧ Row w g (cap * 3) l.length (nth l) := own_rows' h.2 h.1

def uq (y : Nat → Ent) : Nat → List Ent
  | 0 => []
  | k + 1 => if 0 < k ∧ (y k).1 = (y (k - 1)).1 then uq y k else uq y k ++ [y k]
theorem uq_len (y : Nat → Ent) : ∀ k, (uq y k).length ≤ k
  | 0 => by simp [uq]
  | k + 1 => by
    have := uq_len y k
    unfold uq
    split
    · omega
    · simp; omega
theorem lt_trans' {x y z : Ent} (h1 : lt x y = true) (h2 : lt y z = true) : lt x z = true := lt_cmp.2 (cb_trans _ _ _ (lt_cmp.1 h1) (lt_cmp.1 h2))
theorem lt_of_ne {x y : Ent} (h : lt y x = false) (hne : y.1 ≠ x.1) : lt x y = true := by
  have k1 : ¬ cmp y.1 x.1 < 0 := of_decide_eq_false h
  rcases Int.lt_trichotomy (cmp y.1 x.1) 0 with e | e | e
  · exact absurd e k1
  · exact absurd (cmp_zero.1 e) hne
  · exact lt_cmp.2 (cb_pos _ _ e)
theorem uq_str {y : Nat → Ent} {n : Nat} (hs : Srt y 0 n) : ∀ k, k ≤ n → Str (nth (uq y k)) (uq y k).length ∧ (0 < k → 0 < (uq y k).length ∧ (nth (uq y k) ((uq y k).length - 1)).1 = (y (k - 1)).1)
  | 0, _ => ⟨fun i j h1 h2 => by simp [uq] at h2, fun h => by omega⟩
  | k + 1, hk => by
    obtain ⟨h1, h2⟩ := uq_str hs k (by omega)
    unfold uq
    by_cases c : 0 < k ∧ (y k).1 = (y (k - 1)).1
    · rw [if_pos c]
      refine ⟨h1, fun _ => ⟨(h2 c.1).1, ?_⟩⟩
      rw [(h2 c.1).2, Nat.add_sub_cancel, c.2]
    · rw [if_neg c]
      refine ⟨fun i j hij hj => ?_, fun _ => ⟨by simp, ?_⟩⟩
      · rw [List.length_append, List.length_singleton] at hj
        rw [nth_left (by omega)]
        by_cases e : j = (uq y k).length
        · subst e
          rw [nth_last]
          have hk0 : 0 < k := by
            rcases Nat.eq_zero_or_pos k with h | h
            · subst h; simp [uq] at hij
            · exact h
          obtain ⟨l1, l2⟩ := h2 hk0
          have hne : (y k).1 ≠ (y (k - 1)).1 := fun e => c ⟨hk0, e⟩
          have hlt := lt_of_ne (hs (k - 1) k (by omega) (by omega) (by omega)) hne
          have hlast : lt (nth (uq y k) ((uq y k).length - 1)) (y k) = true := by
            rw [lt_cmp, l2]
            exact lt_cmp.1 hlt
          by_cases e2 : i = (uq y k).length - 1
          · rw [e2]; exact hlast
          · exact lt_trans' (h1 i _ (by omega) (by omega)) hlast
        · rw [nth_left (by omega)]
          exact h1 i j hij (by omega)
      · rw [List.length_append, List.length_singleton, Nat.add_sub_cancel, nth_last]
        rfl

set_option maxRecDepth 100000 in
set_option maxHeartbeats 1000000 in
theorem u13 (w0 W : World) (g m n c : Nat) (nl : Bool) (q : ByteArray) (y : Nat → Ent) (hn : n ≤ 1048576) (hr : Row W g m n y) (hs : Srt y 0 n) (hb : Below w0.heap.size w0 W)
    (u0 u1 u2 u4 u5 u6 u7 u8 u11 u12 u13 u14 u15 u16 u17 u18 u19 u20 u21 u22 u23 u24 u25 u26 u27 u28 u29 u30 u31 u32 u33 u34 u35 u36 u37 u38 u39 u40 u41 u42 u43 u44 u45 u46 u47 u48 u49 u50 u51 u52 u53 u54 u55 u56 u57 u58 u59 u60 u61 u62 u63 u64 u65 u66 u67 u68 u69 u70 u71 u72 u73 u74 u75 u76 u77 u78 u79 u80 u81 u82 u83 u84 u85 u86 u87 u88 u89 u90 u91 u92 u93 u94 u95 u96 u97 u98 u99 u100 u101 u102 u103 u104 u105 u106 u107 u108 u109 u110 u111 u112 u113 u114 u115 u116 u117 u118 u119 u120 u121 u122 u123 u124 u125 u126 u127 u128 u129 u130 u131 u132 u133 u134 u135 u136 u137 u138 u139 u140 u141 u142 u143 u144 u145 u146 u147 u148 u149 u150 u151 u152 u153 u154 : Value) :
    Code.wp Yba.prog (chain2 13 (Yba.f4.body.getD .skip)) (bodyPost Yba.prog Yba.f4 fun e w' => e = .returned (.bool true) ∧ Below w0.heap.size w0 w')
      ⟨#[u0, u1, u2, .bool nl, u4, u5, u6, u7, u8, .string q, .slice (some ⟨g, 0, none⟩) n c, u11, u12, u13, u14, u15, u16, u17, u18, u19, u20, u21, u22, u23, u24, u25, u26, u27, u28, u29, u30, u31, u32, u33, u34, u35, u36, u37, u38, u39, u40, u41, u42, u43, u44, u45, u46, u47, u48, u49, u50, u51, u52, u53, u54, u55, u56, u57, u58, u59, u60, u61, u62, u63, u64, u65, u66, u67, u68, u69, u70, u71, u72, u73, u74, u75, u76, u77, u78, u79, u80, u81, u82, u83, u84, u85, u86, u87, u88, u89, u90, u91, u92, u93, u94, u95, u96, u97, u98, u99, u100, u101, u102, u103, u104, u105, u106, u107, u108, u109, u110, u111, u112, u113, u114, u115, u116, u117, u118, u119, u120, u121, u122, u123, u124, u125, u126, u127, u128, u129, u130, u131, u132, u133, u134, u135, u136, u137, u138, u139, u140, u141, u142, u143, u144, u145, u146, u147, u148, u149, u150, u151, u152, u153, u154], []⟩ W := by
  conv => arg 2; whnf
  obtain ⟨i0, hi, hz0, hz1, hz2⟩ := info_parts Yba.info36
  have mk := make0 n hn
  have H := show Hid _ from And.intro hr (And.intro hs hn)
  have HS := show Hid _ from OwnN.start W n hn
  clear hr hs hn
  go_wp2_with fail
  go_loopg [13, 73] n (fun gh s13 s73 wr => ∃ k : Nat, k ≤ n ∧ n - k ≤ gh ∧ s73 = .int .i64 k ∧ Below W.heap.size W wr ∧ Hid (OwnN wr W.heap.size s13 (uq y k)))
  case atStart => exact ⟨0, Nat.zero_le _, by omega, rfl, (Below.refl _ _).alloc (Nat.le_refl _) _, HS⟩
  case round =>
    clear HS mk
    rename_i Kx hKx J1 J2 J3 J4
    have HK := show Hid _ from hKx
    clear hKx
    obtain ⟨k, hk, hg, rfl, hbel, HO⟩ := hrel
    by_cases hlt : k < n
    · have hrw := Row.below (rowI H.out.1) hbel
      obtain ⟨c0, c1, c2⟩ := hrw.cells hlt
      have hn := H.out.2.2
      have ek : wrap64 ((k : Int) + 1) = ((k + 1 : Nat) : Int) := wrap_succ (by omega)
      have HEK := show Hid _ from ek
      clear ek
      by_cases hcond : 0 < k ∧ (y k).1 = (y (k - 1)).1
      · have hu : uq y (k + 1) = uq y k := by show (if _ then _ else _) = _; rw [if_pos hcond]
        obtain ⟨hk0, hq⟩ := hcond
        obtain ⟨zz, HZ, ez, hz⟩ := pre64 (i := k) (n := n) hk0 hk hn
        have HEZ := show Hid _ from ez
        clear ez
        obtain ⟨d0, d1, d2⟩ := hrw.cells hz
        have hq2 : ((y k).1.toList == (y zz).1.toList) = true := by rw [HZ.out, hq]; simp
        have ez := HEZ.out
        have ez' : IntKind.i64.wrap ((k : Int) - 1) = (zz : Int) := (i64w _).trans ez
        have HU := show Hid _ from And.intro hu (And.intro hg hk)
        clear hq hn hu hrw c1 c2 d1 d2 hg hk
        go_wp2_with fail
        go_quiet (fail)
        have ek := HEK.out
        go_wp2_with fail
        clear ez ez' ek
        go_roundg (n - (k + 1))
        case measure => have := HU.out; omega
        case rel => exact ⟨k + 1, hlt, Nat.le_refl _, by first | rfl | (rw [HEK.out]), below_drewN hbel _, by rw [HU.out.1]; exact OwnN.later HO.out (below_drewN (Below.refl _ _) _)⟩
      · have hu : uq y (k + 1) = uq y k ++ [y k] := by show (if _ then _ else _) = _; rw [if_neg hcond]
        by_cases hk0 : 0 < k
        · have hq : (y k).1 ≠ (y (k - 1)).1 := fun e => hcond ⟨hk0, e⟩
          obtain ⟨zz, HZ, ez, hz⟩ := pre64 (i := k) (n := n) hk0 hk hn
          have HEZ := show Hid _ from ez
          clear ez
          obtain ⟨d0, d1, d2⟩ := hrw.cells hz
          have hq2 : ((y k).1.toList == (y zz).1.toList) = false := by rw [HZ.out]; exact str_ne hq
          have ez := HEZ.out
          have ez' : IntKind.i64.wrap ((k : Int) - 1) = (zz : Int) := (i64w _).trans ez
          have HU := show Hid _ from And.intro hu (And.intro hg (And.intro hk hn))
          clear hq hn hu hrw d1 d2 hg hk hcond
          go_wp2_with fail
          go_quiet (fail)
          clear ez ez'
          go_wp2_with (at_builtin; refine wpList_append_own _ rfl _ _ 32 rfl W.heap.size 36 i0 (.agg #[.string ⟨#[]⟩, .int .i64 0, .int .u64 0]) 3 32 Yba.underlying32 hi hz0 hz1 hz2 rfl (by decide) u13 (uq y k).length (lcells2 (uq y k)) rfl ?qown ⟨wr.heap.size, 0, none⟩ 1 1 [.string (y k).1, .int .i64 (y k).2.1, .int .u64 (y k).2.2] rfl ?qc0 ?qc1 ?qc2 ?qc3 ?qc4 ?qc5 ?_)
          case qown => exact (OwnN.later HO.out (below_drewN ((Below.refl _ _).alloc (Nat.le_refl _) _) _)).1
          case qc0 => rfl
          case qc1 =>
            intro j u hj
            match j, hj with
            | 0, hj => simp at hj; subst hj; simp [Addr.add]; exact cell_of (i := 0) (heap_alloc_new (wr.drewN _) _) rfl
            | 1, hj => simp at hj; subst hj; simp [Addr.add]; exact cell_of (i := 1) (heap_alloc_new (wr.drewN _) _) rfl
            | 2, hj => simp at hj; subst hj; simp [Addr.add]; exact cell_of (i := 2) (heap_alloc_new (wr.drewN _) _) rfl
          case qc2 =>
            intro u hu
            simp at hu
            rcases hu with rfl | rfl | rfl <;> rfl
          case qc3 => have := uq_len y k; have := HU.out; simp only [maxLen]; omega
          case qc4 => have := uq_len y k; have := HU.out; omega
          case qc5 => have := hbel.size; simp; omega
          intro v' w2 hown hgrow hnn
          have hnil : v' ≠ .slice none 0 0 := by simpa using hnn
          have hbel2 : Below W.heap.size W w2 := (below_drewN (hbel.alloc hbel.size _) _).grown hgrow (by have := hbel.size; simp; omega) (OwnN.base HO.out)
          have HO2 := show Hid _ from And.intro hown hnil
          clear hown hgrow hnn hnil
          have ek := HEK.out
          go_wp2_with fail
          clear ek
          go_roundg (n - (k + 1))
          case measure => have := HU.out; omega
          case rel => exact ⟨k + 1, hlt, Nat.le_refl _, by first | rfl | (rw [HEK.out]), hbel2, by rw [HU.out.1]; exact show Hid _ from ⟨by rw [lcells2_one, List.length_append]; exact HO2.out.1, HO2.out.2⟩⟩
        · have HU := show Hid _ from And.intro hu (And.intro hg (And.intro hk hn))
          have hk1 : k = 0 := by omega
          subst hk1
          clear hn hu hrw hg hk hcond hk0
          go_wp2_with fail
          go_quiet (fail)
          go_wp2_with (at_builtin; refine wpList_append_own _ rfl _ _ 32 rfl W.heap.size 36 i0 (.agg #[.string ⟨#[]⟩, .int .i64 0, .int .u64 0]) 3 32 Yba.underlying32 hi hz0 hz1 hz2 rfl (by decide) u13 (uq y 0).length (lcells2 (uq y 0)) rfl ?qown ⟨wr.heap.size, 0, none⟩ 1 1 [.string (y 0).1, .int .i64 (y 0).2.1, .int .u64 (y 0).2.2] rfl ?qc0 ?qc1 ?qc2 ?qc3 ?qc4 ?qc5 ?_)
          case qown => exact (OwnN.later HO.out (below_drewN ((Below.refl _ _).alloc (Nat.le_refl _) _) _)).1
          case qc0 => rfl
          case qc1 =>
            intro j u hj
            match j, hj with
            | 0, hj => simp at hj; subst hj; simp [Addr.add]; exact cell_of (i := 0) (heap_alloc_new (wr.drewN _) _) rfl
            | 1, hj => simp at hj; subst hj; simp [Addr.add]; exact cell_of (i := 1) (heap_alloc_new (wr.drewN _) _) rfl
            | 2, hj => simp at hj; subst hj; simp [Addr.add]; exact cell_of (i := 2) (heap_alloc_new (wr.drewN _) _) rfl
          case qc2 =>
            intro u hu
            simp at hu
            rcases hu with rfl | rfl | rfl <;> rfl
          case qc3 => have := uq_len y 0; have := HU.out; simp only [maxLen]; omega
          case qc4 => have := uq_len y 0; have := HU.out; omega
          case qc5 => have := hbel.size; simp; omega
          intro v' w2 hown hgrow hnn
          have hnil : v' ≠ .slice none 0 0 := by simpa using hnn
          have hbel2 : Below W.heap.size W w2 := (below_drewN (hbel.alloc hbel.size _) _).grown hgrow (by have := hbel.size; simp; omega) (OwnN.base HO.out)
          have HO2 := show Hid _ from And.intro hown hnil
          clear hown hgrow hnn hnil
          have ek := HEK.out
          go_wp2_with fail
          clear ek
          go_roundg (n - (0 + 1))
          case measure => have := HU.out; omega
          case rel => exact ⟨0 + 1, hlt, Nat.le_refl _, by first | rfl | (rw [HEK.out]), hbel2, by rw [HU.out.1]; exact show Hid _ from ⟨by rw [lcells2_one, List.length_append]; exact HO2.out.1, HO2.out.2⟩⟩
    · obtain rfl : k = n := by omega
      go_wp2_with fail
      refine HK.out _ _ ?_
      obtain ⟨hr, hs, hn⟩ := H.out
      obtain ⟨U, cap, rfl, hU, hR⟩ := OwnN.row HO.out
      have hst := (uq_str hs k (Nat.le_refl _)).1
      have hln := uq_len y k
      have hRl := hR.lt
      cases nl
      · apply u20f w0 wr U (uq y k).length cap q (nth (uq y k)) (by omega) hR.at3 hRl hst (hb.trans (hbel.mono hb.size))
      · apply u20t w0 wr U (uq y k).length cap q (nth (uq y k)) (by omega) hR.at3 hRl (hb.trans (hbel.mono hb.size))
end Go.Proofs.Ybulkexnoq
