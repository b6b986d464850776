/-
  No cell of these rows narrows 'for every input' (looked for: loops, veiled, ifaces, maps, wideKeys, modest, calm, conditions, laid).
  DERIVED. THE GIVEN ROWS OF THIS SEAT. 1 by the template 'for every input the law returns true; each argument reads behind the call as it read before'; 0 by the template 'total and deterministic' (their statements: YbulkedomTotals.lean).
  GIVEN WITH THE SEED: the statements are not yours to turn. If you find one false, say at which input.
  Laid BY PROGRAM, IN A SANDBOX (cutbox-rows.mjs): the forced cells as the released guide's own fill.sh prints them over the translation 1f8546b04f8c3217… (all of the seat's roots in one cut). By AI agents, Wed Nov 11 2026. No macro, syntax, notation, axiom, sorry.
-/
import Derived.Test.YbulkedomChecked
import GoSem.Claim
import GoSem.ClaimJoined
import GoSem.ClaimMapViews
import Derived.JoinedTies
import Derived.KernelRfl
namespace Go.Proofs.Ybulkedom
/- THE CELL 'sum', in the pinned program and in every row, IS THE sha256 OF THE DUMP (.gsa) THAT YbulkedomProg.lean LOADS. Nothing in Lean hashes anything: it is a label: what it is worth is what the hold of that sum in a sandbox is worth. -/
noncomputable def Yba.pinned : Pinned := { name := "ybulkedom", sum := "1f8546b04f8c3217e0241d82814025f25df5f0592ec6a6e458cb1e070a577fdd", checked := Yba.checked }
namespace Rows
def none {H : Type} : Left H := { results := [], args := [] }

/-- 'krb5conf.LawS6499BWhole': WHATEVER THE INPUT: true; the input reads as it did. -/
def lawS6499BWholeSpec : ChangeSpec := { name := "lawS6499BWhole", fn := fun _ => fun
  | [d1, d2, d3, d4, d5, d6] => { results := [.lit (.bool true)], args := [d1, d2, d3, d4, d5, d6] }
  | _ => none }
def lawS6499BWholeRow : OpenClaim := { program := "ybulkedom", sum := "1f8546b04f8c3217e0241d82814025f25df5f0592ec6a6e458cb1e070a577fdd", func := "example.com/keen-realm/keen-realm/krb5conf.LawS6499BWhole", spec := "lawS6499BWhole", unfollowed := true, recurses := true, apart := false }
def LawS6499BWholeSaid : Prop := lawS6499BWholeRow.holds Yba.pinned (OpenSpec.ofChange lawS6499BWholeSpec)

/-- ITS FALSE NEIGHBOUR: 'it returns false'. Refute it at one input. -/
def lawS6499BWholeWrong : ChangeSpec := { name := "lawS6499BWhole", fn := fun _ => fun
  | [d1, d2, d3, d4, d5, d6] => { results := [.lit (.bool false)], args := [d1, d2, d3, d4, d5, d6] }
  | _ => none }
def LawS6499BWholeWrongFalsely : Prop := lawS6499BWholeRow.holds Yba.pinned (OpenSpec.ofChange lawS6499BWholeWrong)

end Rows
end Go.Proofs.Ybulkedom
