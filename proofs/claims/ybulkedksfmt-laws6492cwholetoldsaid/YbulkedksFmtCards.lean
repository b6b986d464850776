/-
  DERIVED. GIVEN WITH THE SEED: THE CARDS: each row of YbulkedksFmtRows.lean that lists a variable, with what it lists TIED to the program's text (the seventh form; the later family's looks); each row that meets fmt, with fmt's text TOLD by the authors' own Lean function (tested against real Go, not proved from fmt's source: count such statements apart). THE CARD IS WHAT COUNTS. Prove the row's statement (the work); the ties are given (YbulkedksFmtTie.lean); close each card by the builder's one call (the guide's Derived/Test/ToyasCard.lean, 'card_holds'). Laid BY PROGRAM, IN A SANDBOX (cutbox-door.mjs). By AI agents, Wed Nov 11 2026. No macro, syntax, notation, axiom, sorry.
-/
import Derived.Test.YbulkedksFmtRows
import GoSem.ClaimSeven
namespace Go.Proofs.YbulkedksFmt
namespace Rows

/-- THE TOLD CARD OF 'transport.LawS6492CWhole'. -/
def lawS6492CWholeCard : Claim7 := { stood := { row := lawS6492CWholeRow, standIns := [], harness := (true, "37cdab97b9fd86dec77aee84bd2f6c9b8923b6f80099ce4399a1d9dacce94b2d"), looks := false }, told := true, goes := false }
def LawS6492CWholeToldSaid : Prop := Claim7.holds Ybaf.pinned (.plain (OpenSpec.ofChange lawS6492CWholeSpec)) lawS6492CWholeCard
/-- ITS FALSE NEIGHBOUR. Refute it at one input. -/
def LawS6492CWholeToldWrongFalsely : Prop := Claim7.holds Ybaf.pinned (.plain (OpenSpec.ofChange lawS6492CWholeWrong)) lawS6492CWholeCard
end Rows
end Go.Proofs.YbulkedksFmt
