import Derived.Test.YbulkexnocFmtCards
import Derived.WalkKit
import Derived.WalkSpells
import Derived.WalkLawsBesides
import Derived.Stop.CallBack
import Derived.Stop.IfaceNil
import Derived.Stop.Told
import Derived.Stop.Texts
import Derived.Deep.OwnRows
import Derived.Deep.Draws
import Derived.Deep.QuietTactic
import Derived.BigQuiet
namespace Go.Proofs.YbulkexnocFmt
open Go.RowKit Go.Kit Go.Extern.Stop Go.Stop Go.Extern
set_option linter.unusedVariables false

-- fmt.Sprintf: function 11
@[go_sem] theorem Ybaf.call11 (args : Array Value) (w : World) : (callFunc 11 args).run Ybaf.prog w = ((FmtStop.sprintf #[9, 136] #[9] args).run Ybaf.prog w).andThen fun v w' => .ok (.value v) w' :=
  run_callFunc_extern Ybaf.func11 (by kernel_rfl) (by kernel_rfl) (by kernel_rfl) (by kernel_rfl) args w
@[go_sem] theorem Ybaf.guard (name : String) (w : World) : (FmtStop.guard name).run Ybaf.prog w = .ok () w := by kernel_rfl
/-- "more than %d values that take no bytes" -/
def fmtA : ByteArray := ⟨#[109, 111, 114, 101, 32, 116, 104, 97, 110, 32, 37, 100, 32, 118, 97, 108, 117, 101, 115, 32, 116, 104, 97, 116, 32, 116, 97, 107, 101, 32, 110, 111, 32, 98, 121, 116, 101, 115]⟩
theorem Ybaf.fmtp : FmtStop.printed? fmtA 1 = some [(0, 100, false)] := by kernel_rfl
theorem Ybaf.fmtr (w : World) : (FmtDoors.printed fmtA 1).run Ybaf.prog w = .ok [(0, 100, false)] w := by kernel_rfl
def shape3 : List UInt8 := [5, 3, 0, 0, 0, 0, 0, 0, 0, 105, 110, 116]
def val3 : List UInt8 := [0, 0, 1, 0, 0, 0, 0, 0]
theorem Ybaf.op3_100 (name : String) (w : World) : (FmtStop.operand name false 100 false (.iface 3 (.int .i64 65536))).run Ybaf.prog w = .ok (shape3, val3) w := by kernel_rfl

theorem len_any (w : World) (D : Nat) (p : Option Addr) (n c : Nat) (base : Int) (h2 : w.cell? ⟨D, 575, none⟩ = some (.slice p n c)) (h3 : w.cell? ⟨D, 576, none⟩ = some (.int .i64 base)) :
    Calls Ybaf.prog 9 #[.pointer (some ⟨D, 573, none⟩)] w fun e w' => e = .returned (.int .i64 (wrap64 (base + n))) ∧ ∃ m, w' = w.drewN m := by
  go_enter Ybaf.func9, Ybaf.ntmps9
  go_wp2_with fail
  go_quiet (fail)
  go_wp2
  go_ret
  exact ⟨by go_num, _, rfl⟩

theorem fail_any (w : World) (d : Value) (at_ : Int) (s : ByteArray) :
    Calls Ybaf.prog 8 #[d, .int .i64 at_, .string s] w fun e w' => e = .returned (.iface 84 (.pointer (some ⟨w.heap.size, 0, none⟩))) ∧ w' = w.alloc (.cells #[.int .i64 at_, .string s] 87) := by
  go_enter Ybaf.func8, Ybaf.ntmps8
  go_wp2
  go_ret
  exact ⟨rfl, rfl⟩

theorem count_less (w : World) (D : Nat) (em : Int) (hc : w.cell? ⟨D, 6, none⟩ = some (.int .i64 em)) (hf : w.frozen? ⟨D, 6, none⟩ = false) (hne : em ≠ 65536) :
    Calls Ybaf.prog 7 #[.pointer (some ⟨D, 5, none⟩)] w fun e w' => e = .returned (.string ⟨#[]⟩) ∧ w' = w.setCell ⟨D, 6, none⟩ (.int .i64 (wrap64 (em + 1))) := by
  go_enter Ybaf.func7, Ybaf.ntmps7
  go_wp2
  go_ret
  exact ⟨rfl, by simp [wrap64]⟩

/-- "more than 65536 values that take no bytes" -/
def msgA : ByteArray := ⟨#[109, 111, 114, 101, 32, 116, 104, 97, 110, 32, 54, 53, 53, 51, 54, 32, 118, 97, 108, 117, 101, 115, 32, 116, 104, 97, 116, 32, 116, 97, 107, 101, 32, 110, 111, 32, 98, 121, 116, 101, 115]⟩
theorem textA : FmtText.text "fmt.Sprintf" (fmtA.data.toList :: [shape3, val3]) = some msgA.data.toList := by decide +kernel
theorem told_msg (F : Interp) : FmtStop.textOf (F.told "fmt.Sprintf" (fmtA.data.toList :: [shape3, val3]) 0) = msgA := by
  have h := told_string F textA (by decide +kernel)
  rw [← textOf_list] at h
  apply ByteArray.ext
  exact Array.toList_inj.1 h

set_option maxRecDepth 100000 in
set_option maxHeartbeats 400000 in
theorem count_full (F : Interp) (w : World) (D : Nat) (hF : F.told.answers w.tape) (hc : w.cell? ⟨D, 6, none⟩ = some (.int .i64 65536)) :
    Calls Ybaf.prog 7 #[.pointer (some ⟨D, 5, none⟩)] w fun e w' => e = .returned (.string msgA) ∧ Below w.heap.size w w' := by
  have hF' := answers_open hF
  have hfm := Ybaf.fmtr
  have hfp := Ybaf.fmtp
  have hop := Ybaf.op3_100
  have hmsg := told_msg F
  unfold fmtA at hfm hfp hmsg
  go_enter Ybaf.func7, Ybaf.ntmps7
  go_wp2
  go_ret
  exact ⟨rfl, ((Below.refl _ w).alloc (Nat.le_refl _) _).drew⟩
end Go.Proofs.YbulkexnocFmt
