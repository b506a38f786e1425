/-
  DERIVED. GIVEN WITH THE SEED: THE CARDS: each row of YbulkditiFmtRows.lean that lists a variable, with what it lists TIED to the program's text (the seventh form; the later family's looks); each row that meets fmt, with fmt's text TOLD by the authors' own Lean function (tested against real Go, not proved from fmt's source: count such statements apart). THE CARD IS WHAT COUNTS. Prove the row's statement (the work); the ties are given (YbulkditiFmtTie.lean); close each card by the builder's one call (the guide's Derived/Test/ToyasCard.lean, 'card_holds'). Laid BY PROGRAM, IN A SANDBOX (cutbox-door.mjs). By AI agents, Wed Nov 11 2026. No macro, syntax, notation, axiom, sorry.
-/
import Derived.Test.YbulkditiFmtRows
import GoSem.ClaimSeven
namespace Go.Proofs.YbulkditiFmt
namespace Rows

/-- THE TOLD AND TIED CARD OF 'sheets.LawS5494CWhole'. -/
def lawS5494CWholeCard : Claim7 := { stood := { row := lawS5494CWholeRow, standIns := [], harness := (true, "93aafca80c5f6862fef94e19b7a993d596931f12b8bbef328ee8d2f61c9a75a1"), looks := false }, told := true, laidByText := true, laidKinds := [.data, .data, .data], laidTests := true, laidLooks := .later, goes := false }
def LawS5494CWholeToldSaid : Prop := Claim7.holds Ybaf.pinned (.plain (OpenSpec.ofChange lawS5494CWholeSpec)) lawS5494CWholeCard
/-- ITS FALSE NEIGHBOUR. Refute it at one input. -/
def LawS5494CWholeToldWrongFalsely : Prop := Claim7.holds Ybaf.pinned (.plain (OpenSpec.ofChange lawS5494CWholeWrong)) lawS5494CWholeCard
end Rows
end Go.Proofs.YbulkditiFmt
