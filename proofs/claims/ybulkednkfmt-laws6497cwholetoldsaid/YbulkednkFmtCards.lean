/-
  DERIVED. GIVEN WITH THE SEED: THE CARDS: each row of YbulkednkFmtRows.lean that lists a variable, with what it lists TIED to the program's text (the seventh form; the later family's looks); each row that meets fmt, with fmt's text TOLD by the authors' own Lean function (tested against real Go, not proved from fmt's source: count such statements apart). THE CARD IS WHAT COUNTS. Prove the row's statement (the work); the ties are given (YbulkednkFmtTie.lean); close each card by the builder's one call (the guide's Derived/Test/ToyasCard.lean, 'card_holds'). Laid BY PROGRAM, IN A SANDBOX (cutbox-door.mjs). By AI agents, Wed Nov 11 2026. No macro, syntax, notation, axiom, sorry.
-/
import Derived.Test.YbulkednkFmtRows
import GoSem.ClaimSeven
namespace Go.Proofs.YbulkednkFmt
namespace Rows

/-- THE TOLD AND TIED CARD OF 'api.LawS6497CWhole'. -/
def lawS6497CWholeCard : Claim7 := { stood := { row := lawS6497CWholeRow, standIns := [], harness := (true, "c870f408a39d07b536fd5c03322bb8bff5793847613b7257ae4577ebc4a340d5"), looks := true }, told := true, laidByText := true, laidKinds := [.data, .data, .data, .sentinel, .sentinel], laidTests := true, laidLooks := .later, goes := false }
def LawS6497CWholeToldSaid : Prop := Claim7.holds Ybaf.pinned (.plain (OpenSpec.ofChange lawS6497CWholeSpec)) lawS6497CWholeCard
/-- ITS FALSE NEIGHBOUR. Refute it at one input. -/
def LawS6497CWholeToldWrongFalsely : Prop := Claim7.holds Ybaf.pinned (.plain (OpenSpec.ofChange lawS6497CWholeWrong)) lawS6497CWholeCard
end Rows
end Go.Proofs.YbulkednkFmt
