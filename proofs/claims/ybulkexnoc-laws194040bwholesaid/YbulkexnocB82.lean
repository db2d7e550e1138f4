import Derived.Test.YbulkexnocB32
namespace Go.Proofs.Ybulkexnoc
open Go.RowKit
set_option linter.unusedVariables false

/-- One pair appended to the empty list over the bindings' own array. -/
theorem wpList_first {V : World} {ops : Array Oper} {rest : List Oper} {o : Oper} {a : Act} {Q : Exit → Act → World → Prop} (hg : o.guard = none) (s x : Operand)
    (hop : o.op = Op.call { callee := Callee.builtin Builtin.append, args := #[s, x], argTypes := #[39, 39] }) (G X : Nat) (nm : ByteArray) (nn : Int) (F : Nat → Value) (hs : a.eval s = .slice (some ⟨G, 3, none⟩) 0 2) (hx : a.eval x = .slice (some ⟨X, 0, none⟩) 1 1)
    (h : V.rowIs G 45 8 F) (hX : V.heap[X]? = some (.cells #[.string nm, .int .i64 nn] 42 (0, 0)))
    (hK : ∀ w2, w2.rowIs G 45 8 (fun i => if i = 4 then .int .i64 nn else if i = 3 then .string nm else F i) → Below G V w2 → wpList Yba.prog ops Q rest (a.put o.dst (.slice (some ⟨G, 3, none⟩) 1 2)) w2) :
    wpList Yba.prog ops Q (o :: rest) a V := by
  obtain ⟨i0, hi, hz0, hz1, hz2⟩ := info_parts Yba.info42
  have hrun := run_append_room_cells (P := Yba.prog) V 39 o.type 42 i0 Yba.underlying39 hi G 3 0 2 ⟨X, 0, none⟩ 1 1 [.string nm, .int .i64 nn] (by simp [hz1])
    (fun q u hq => by
      match q, hq with
      | 0, hq => simp at hq; subst hq; simp [Addr.add, World.cell?, hX]
      | 1, hq => simp at hq; subst hq; simp [Addr.add, World.cell?, hX])
    (fun u hu => by simp at hu; rcases hu with rfl | rfl <;> rfl) (by omega)
    (fun q hq => by rw [hz1, h.cell (by simp at hq; omega)]; rfl) (fun q _ => h.frozen _)
  refine wpList_plain hg fun K hK' => ?_
  unfold Oper.wp
  simp [execOp, hop, resolve, invoke, builtin, hs, hx, hrun, Result.andThen]
  exact hK' _ _ (hK _ ((h.set 3 _).set 4 _) (((Below.refl G V).setCell (p := ⟨G, 3, none⟩) (Nat.le_refl _) _).setCell (p := ⟨G, 4, none⟩) (Nat.le_refl _) _))

set_option maxHeartbeats 2000000 in
set_option maxRecDepth 100000 in
theorem b82 (w0 W : World) (G : Nat) (hG : w0.heap.size ≤ G) (hb : Below w0.heap.size w0 W) (h : W.rowIs G 45 8 (fun i => (fresh G (.map none) (.pointer none)).getD i undef))
    (u0 u1 u2 u3 u4 u5 u6 u7 u8 u9 u10 u11 u12 u13 u14 u15 u17 u18 u19 u20 u21 u22 u23 u24 u25 u26 u27 u28 u29 u30 u31 u32 u33 u34 u35 u36 u37 u38 u39 u40 u41 u42 u43 u44 u45 u46 u47 u48 u49 u50 u51 u52 u53 u54 u55 u56 u57 u58 u59 u60 u61 u62 u63 u64 u65 u66 u67 u68 u69 u70 u71 u72 u73 u74 u75 u76 u77 u78 u79 u80 u81 u82 u83 u84 u85 u86 u87 u88 u89 u90 u91 u92 u93 u94 u95 u96 u97 u98 u99 u100 u101 u102 u103 u104 u105 u106 u107 u108 u109 u110 u111 u112 u113 u114 u115 u116 u117 u118 u119 u120 u121 u122 u123 u124 u125 u126 u127 u128 u129 u130 u131 u132 u133 u134 u135 u136 u137 u138 u139 u140 u141 u142 u143 u144 u145 u146 u147 u148 u149 u150 u151 u152 u153 u154 u155 u156 u157 u158 u159 u160 u161 u162 u163 u164 u165 u166 u167 u168 u169 u170 u171 u172 u173 u174 u175 u176 u177 u178 u179 u180 u181 u182 u183 u184 u185 u186 u187 u188 u189 u190 u191 u192 u193 u194 u195 u196 u197 u198 u199 u200 u201 u202 u203 u204 u205 u206 u207 u208 u209 u210 u211 u212 u213 u214 u215 u216 u217 u218 u219 u220 u221 u222 u223 u224 u225 u226 u227 u228 u229 u230 u231 u232 u233 u234 u235 u236 u237 u238 u239 u240 u241 u242 u243 u244 u245 u246 u247 u248 u249 u250 u251 u252 u253 u254 u255 u256 u257 u258 u259 u260 u261 u262 u263 u264 u265 u266 u267 u268 u269 u270 u271 u272 u273 u274 u275 u276 u277 u278 u279 u280 u281 u282 u283 u284 u285 u286 u287 u288 u289 u290 u291 u292 u293 u294 u295 u296 u297 u298 u299 u300 u301 u302 u303 u304 u305 u306 u307 u308 u309 u310 u311 u312 u313 u314 u315 u316 u317 : Value) :
    Code.wp Yba.prog (chain 82 (Yba.f3.body.getD .skip)) (bodyPost Yba.prog Yba.f3 fun e w' => e = .returned (.bool true) ∧ Below w0.heap.size w0 w')
      ⟨#[u0, u1, u2, u3, u4, u5, u6, u7, u8, u9, u10, u11, u12, u13, u14, u15, .pointer (some ⟨G, 0, none⟩), u17, u18, u19, u20, u21, u22, u23, u24, u25, u26, u27, u28, u29, u30, u31, u32, u33, u34, u35, u36, u37, u38, u39, u40, u41, u42, u43, u44, u45, u46, u47, u48, u49, u50, u51, u52, u53, u54, u55, u56, u57, u58, u59, u60, u61, u62, u63, u64, u65, u66, u67, u68, u69, u70, u71, u72, u73, u74, u75, u76, u77, u78, u79, u80, u81, u82, u83, u84, u85, u86, u87, u88, u89, u90, u91, u92, u93, u94, u95, u96, u97, u98, u99, u100, u101, u102, u103, u104, u105, u106, u107, u108, u109, u110, u111, u112, u113, u114, u115, u116, u117, u118, u119, u120, u121, u122, u123, u124, u125, u126, u127, u128, u129, u130, u131, u132, u133, u134, u135, u136, u137, u138, u139, u140, u141, u142, u143, u144, u145, u146, u147, u148, u149, u150, u151, u152, u153, u154, u155, u156, u157, u158, u159, u160, u161, u162, u163, u164, u165, u166, u167, u168, u169, u170, u171, u172, u173, u174, u175, u176, u177, u178, u179, u180, u181, u182, u183, u184, u185, u186, u187, u188, u189, u190, u191, u192, u193, u194, u195, u196, u197, u198, u199, u200, u201, u202, u203, u204, u205, u206, u207, u208, u209, u210, u211, u212, u213, u214, u215, u216, u217, u218, u219, u220, u221, u222, u223, u224, u225, u226, u227, u228, u229, u230, u231, u232, u233, u234, u235, u236, u237, u238, u239, u240, u241, u242, u243, u244, u245, u246, u247, u248, u249, u250, u251, u252, u253, u254, u255, u256, u257, u258, u259, u260, u261, u262, u263, u264, u265, u266, u267, u268, u269, u270, u271, u272, u273, u274, u275, u276, u277, u278, u279, u280, u281, u282, u283, u284, u285, u286, u287, u288, u289, u290, u291, u292, u293, u294, u295, u296, u297, u298, u299, u300, u301, u302, u303, u304, u305, u306, u307, u308, u309, u310, u311, u312, u313, u314, u315, u316, u317], []⟩ W := by
  conv => arg 2; whnf
  obtain ⟨i0, hi, hz0, hz1, hz2⟩ := info_parts Yba.info42
  have hlt := h.lt
  have c1 : W.cell? ⟨G, 1, none⟩ = some (.slice (some ⟨G, 3, none⟩) 0 2) := h.cell (show 1 < 8 by omega)
  have hA := fun ob => h.alloc ob
  go_wp2_with (at_builtin; refine wpList_first rfl _ _ rfl G W.heap.size ⟨#[122]⟩ 7 _ rfl rfl (hA _) ?qX ?_)
  case qX => exact heap_alloc_new W _
  intro w2 r2 hb2
  have e1 : w2.cell? ⟨G, 1, none⟩ = some (.slice (some ⟨G, 3, none⟩) 0 2) := r2.cell (show 1 < 8 by omega)
  have f1 : w2.frozen? ⟨G, 1, none⟩ = false := r2.frozen 1
  have e3 : ∀ v, (w2.setCell ⟨G, 1, none⟩ v).cell? ⟨G, 3, none⟩ = some (.string ⟨#[122]⟩) := fun v => (r2.set 1 v).cell (show 3 < 8 by omega)
  have e4 : ∀ v, (w2.setCell ⟨G, 1, none⟩ v).cell? ⟨G, 4, none⟩ = some (.int .i64 7) := fun v => (r2.set 1 v).cell (show 4 < 8 by omega)
  have hbb : Below w0.heap.size w0 w2 := (hb.alloc hb.size _).trans (hb2.mono hG)
  clear hA h c1 r2 hb2
  go_wp2
  go_ret
  exact ⟨rfl, hbb.setCell hG _⟩
end Go.Proofs.Ybulkexnoc
