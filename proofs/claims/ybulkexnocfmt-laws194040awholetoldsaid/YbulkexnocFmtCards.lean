/-
  DERIVED. GIVEN WITH THE SEED: THE CARDS: each row of YbulkexnocFmtRows.lean that lists a variable, with what it lists TIED to the program's text (the seventh form; the later family's looks); each row that meets fmt, with fmt's text TOLD by the authors' own Lean function (tested against real Go, not proved from fmt's source: count such statements apart). THE CARD IS WHAT COUNTS. Prove the row's statement (the work); the ties are given (YbulkexnocFmtTie.lean); close each card by the builder's one call (the guide's Derived/Test/ToyasCard.lean, 'card_holds'). Laid BY PROGRAM, IN A SANDBOX (cutbox-door.mjs). By AI agents, Wed Nov 11 2026. No macro, syntax, notation, axiom, sorry.
-/
import Derived.Test.YbulkexnocFmtRows
import GoSem.ClaimSeven
namespace Go.Proofs.YbulkexnocFmt
namespace Rows

/-- THE TOLD CARD OF 'combinant.LawS194040AWhole'. -/
def lawS194040AWholeCard : Claim7 := { stood := { row := lawS194040AWholeRow, standIns := [], harness := (true, "6da87227bdd8a72817b0816e344072189c377a2f02a782f9e783bbd8ce577adb"), looks := true }, told := true, goes := false }
def LawS194040AWholeToldSaid : Prop := Claim7.holds Ybaf.pinned (.plain (OpenSpec.ofChange lawS194040AWholeSpec)) lawS194040AWholeCard
/-- ITS FALSE NEIGHBOUR. Refute it at one input. -/
def LawS194040AWholeToldWrongFalsely : Prop := Claim7.holds Ybaf.pinned (.plain (OpenSpec.ofChange lawS194040AWholeWrong)) lawS194040AWholeCard
end Rows
end Go.Proofs.YbulkexnocFmt
