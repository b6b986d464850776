/-
  DERIVED. GIVEN WITH THE SEED: THE CARDS: each row of YbulkedlgDoorRows.lean that lists a variable, with what it lists TIED to the program's text (the seventh form; the later family's looks); each row that meets fmt, with fmt's text TOLD by the authors' own Lean function (tested against real Go, not proved from fmt's source: count such statements apart). THE CARD IS WHAT COUNTS. Prove the row's statement (the work); the ties are given (YbulkedlgDoorTie.lean); close each card by the builder's one call (the guide's Derived/Test/ToyasCard.lean, 'card_holds'). Laid BY PROGRAM, IN A SANDBOX (cutbox-door.mjs). By AI agents, Wed Nov 11 2026. No macro, syntax, notation, axiom, sorry.
-/
import Derived.Test.YbulkedlgDoorRows
import GoSem.ClaimSeven
namespace Go.Proofs.YbulkedlgDoor
namespace Rows

/-- THE TIED CARD OF 'pegboard.LawS6493CWhole'. -/
def lawS6493CWholeCard : Claim7 := { stood := { row := lawS6493CWholeRow, standIns := [], harness := (true, "5a5d38c514c085428d1ba1804cfcd1f493e29a8d0574ac49fcbad46a3524e6ea"), looks := false }, kinds := [], alts := [], laidByText := true, laidKinds := [.data], laidTests := true, laidLooks := .later }
def LawS6493CWholeCardSaid : Prop := Claim7.holds Ybad.pinned (.plain (OpenSpec.ofChange lawS6493CWholeSpec)) lawS6493CWholeCard
end Rows
end Go.Proofs.YbulkedlgDoor
