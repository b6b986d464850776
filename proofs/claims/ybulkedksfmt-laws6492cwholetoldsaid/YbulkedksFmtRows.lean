/-
  No cell of these rows narrows 'for every input' (looked for: loops, veiled, ifaces, maps, wideKeys, modest, calm, conditions, laid).
  DERIVED. THE GIVEN ROWS OF THIS SEAT. 1 by the template 'for every input the law returns true; each argument reads behind the call as it read before'; 0 by the template 'total and deterministic' (their statements: YbulkedksFmtTotals.lean).
  GIVEN WITH THE SEED: the statements are not yours to turn. If you find one false, say at which input.
  Laid BY PROGRAM, IN A SANDBOX (cutbox-rows.mjs): the forced cells as the released guide's own fill.sh prints them over the translation c900736cfef913c7… (all of the seat's roots in one cut). By AI agents, Wed Nov 11 2026. No macro, syntax, notation, axiom, sorry.
-/
import Derived.Test.YbulkedksFmtChecked
import GoSem.Claim
import GoSem.ClaimJoined
import GoSem.ClaimMapViews
import Derived.JoinedTies
import Derived.KernelRfl
namespace Go.Proofs.YbulkedksFmt
/- THE CELL 'sum', in the pinned program and in every row, IS THE sha256 OF THE DUMP (.gsa) THAT YbulkedksFmtProg.lean LOADS. Nothing in Lean hashes anything: it is a label: what it is worth is what the hold of that sum in a sandbox is worth. -/
noncomputable def Ybaf.pinned : Pinned := { name := "ybulkedksfmt", sum := "c900736cfef913c76a0659cb882d87f4656721d1908af0cec8f88725a50bfa4f", checked := Ybaf.checked }
namespace Rows
def none {H : Type} : Left H := { results := [], args := [] }

/-- 'transport.LawS6492CWhole': WHATEVER THE INPUT: true; the input reads as it did. -/
def lawS6492CWholeSpec : ChangeSpec := { name := "lawS6492CWhole", fn := fun _ => fun
  | [d1, d2, d3, d4, d5, d6, d7, d8, d9, d10, d11, d12] => { results := [.lit (.bool true)], args := [d1, d2, d3, d4, d5, d6, d7, d8, d9, d10, d11, d12] }
  | _ => none }
def lawS6492CWholeRow : OpenClaim := { program := "ybulkedksfmt", sum := "c900736cfef913c76a0659cb882d87f4656721d1908af0cec8f88725a50bfa4f", func := "example.com/tideway/tideway/transport.LawS6492CWhole", spec := "lawS6492CWhole", stops := ["fmt.errorf"], inPlace := ["fmt.errorf"], plainKeys := false, apart := false }
/-- NO THEOREM (fmt's text is open here; it may be false): for the released tool's asking of the row's closed facts alone. THE STATEMENT IS 'LawS6492CWholeToldSaid' (YbulkedksFmtCards.lean). -/
def LawS6492CWholeFormAsk : Prop := lawS6492CWholeRow.holds Ybaf.pinned (OpenSpec.ofChange lawS6492CWholeSpec)

/-- ITS FALSE NEIGHBOUR: 'it returns false'. Refute it at one input. -/
def lawS6492CWholeWrong : ChangeSpec := { name := "lawS6492CWhole", fn := fun _ => fun
  | [d1, d2, d3, d4, d5, d6, d7, d8, d9, d10, d11, d12] => { results := [.lit (.bool false)], args := [d1, d2, d3, d4, d5, d6, d7, d8, d9, d10, d11, d12] }
  | _ => none }
def LawS6492CWholeWrongFormAsk : Prop := lawS6492CWholeRow.holds Ybaf.pinned (OpenSpec.ofChange lawS6492CWholeWrong)

end Rows
end Go.Proofs.YbulkedksFmt
