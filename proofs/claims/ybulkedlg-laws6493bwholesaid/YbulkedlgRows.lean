/-
  No cell of these rows narrows 'for every input' (looked for: loops, veiled, ifaces, maps, wideKeys, modest, calm, conditions, laid).
  DERIVED. THE GIVEN ROWS OF THIS SEAT. 2 by the template 'for every input the law returns true; each argument reads behind the call as it read before'; 0 by the template 'total and deterministic' (their statements: YbulkedlgTotals.lean).
  GIVEN WITH THE SEED: the statements are not yours to turn. If you find one false, say at which input.
  Laid BY PROGRAM, IN A SANDBOX (cutbox-rows.mjs): the forced cells as the released guide's own fill.sh prints them over the translation c1384b0576a358d0… (all of the seat's roots in one cut). By AI agents, Wed Nov 11 2026. No macro, syntax, notation, axiom, sorry.
-/
import Derived.Test.YbulkedlgChecked
import GoSem.Claim
import GoSem.ClaimJoined
import GoSem.ClaimMapViews
import Derived.JoinedTies
import Derived.KernelRfl
namespace Go.Proofs.Ybulkedlg
/- THE CELL 'sum', in the pinned program and in every row, IS THE sha256 OF THE DUMP (.gsa) THAT YbulkedlgProg.lean LOADS. Nothing in Lean hashes anything: it is a label: what it is worth is what the hold of that sum in a sandbox is worth. -/
noncomputable def Yba.pinned : Pinned := { name := "ybulkedlg", sum := "c1384b0576a358d061d73150920a1ed0d9d95bf9c3d1633355cc95d1b74b02c0", checked := Yba.checked }
namespace Rows
def none {H : Type} : Left H := { results := [], args := [] }

/-- 'pegboard.LawS6493AWhole': WHATEVER THE INPUT: true; the input reads as it did. -/
def lawS6493AWholeSpec : ChangeSpec := { name := "lawS6493AWhole", fn := fun _ => fun
  | [d1, d2, d3, d4, d5, d6] => { results := [.lit (.bool true)], args := [d1, d2, d3, d4, d5, d6] }
  | _ => none }
def lawS6493AWholeRow : OpenClaim := { program := "ybulkedlg", sum := "c1384b0576a358d061d73150920a1ed0d9d95bf9c3d1633355cc95d1b74b02c0", func := "example.com/pegboard/pegboard.LawS6493AWhole", spec := "lawS6493AWhole", named := ["encoding/binary.BigEndian"], apart := false }
def LawS6493AWholeSaid : Prop := lawS6493AWholeRow.holds Yba.pinned (OpenSpec.ofChange lawS6493AWholeSpec)

/-- ITS FALSE NEIGHBOUR: 'it returns false'. Refute it at one input. -/
def lawS6493AWholeWrong : ChangeSpec := { name := "lawS6493AWhole", fn := fun _ => fun
  | [d1, d2, d3, d4, d5, d6] => { results := [.lit (.bool false)], args := [d1, d2, d3, d4, d5, d6] }
  | _ => none }
def LawS6493AWholeWrongFalsely : Prop := lawS6493AWholeRow.holds Yba.pinned (OpenSpec.ofChange lawS6493AWholeWrong)

/-- 'pegboard.LawS6493BWhole': WHATEVER THE INPUT: true; the input reads as it did. -/
def lawS6493BWholeSpec : ChangeSpec := { name := "lawS6493BWhole", fn := fun _ => fun
  | [d1, d2, d3, d4, d5, d6] => { results := [.lit (.bool true)], args := [d1, d2, d3, d4, d5, d6] }
  | _ => none }
def lawS6493BWholeRow : OpenClaim := { program := "ybulkedlg", sum := "c1384b0576a358d061d73150920a1ed0d9d95bf9c3d1633355cc95d1b74b02c0", func := "example.com/pegboard/pegboard.LawS6493BWhole", spec := "lawS6493BWhole", apart := false }
def LawS6493BWholeSaid : Prop := lawS6493BWholeRow.holds Yba.pinned (OpenSpec.ofChange lawS6493BWholeSpec)

/-- ITS FALSE NEIGHBOUR: 'it returns false'. Refute it at one input. -/
def lawS6493BWholeWrong : ChangeSpec := { name := "lawS6493BWhole", fn := fun _ => fun
  | [d1, d2, d3, d4, d5, d6] => { results := [.lit (.bool false)], args := [d1, d2, d3, d4, d5, d6] }
  | _ => none }
def LawS6493BWholeWrongFalsely : Prop := lawS6493BWholeRow.holds Yba.pinned (OpenSpec.ofChange lawS6493BWholeWrong)

end Rows
end Go.Proofs.Ybulkedlg
