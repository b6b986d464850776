/-
  No cell of these rows narrows 'for every input' (looked for: loops, veiled, ifaces, maps, wideKeys, modest, calm, conditions, laid).
  DERIVED. THE GIVEN ROWS OF THIS SEAT. 3 by the template 'for every input the law returns true; each argument reads behind the call as it read before'; 0 by the template 'total and deterministic' (their statements: YbulkednkTotals.lean).
  GIVEN WITH THE SEED: the statements are not yours to turn. If you find one false, say at which input.
  Laid BY PROGRAM, IN A SANDBOX (cutbox-rows.mjs): the forced cells as the released guide's own fill.sh prints them over the translation 95611ae680d9a957… (all of the seat's roots in one cut). By AI agents, Wed Nov 11 2026. No macro, syntax, notation, axiom, sorry.
-/
import Derived.Test.YbulkednkChecked
import GoSem.Claim
import GoSem.ClaimJoined
import GoSem.ClaimMapViews
import Derived.JoinedTies
import Derived.KernelRfl
namespace Go.Proofs.Ybulkednk
/- THE CELL 'sum', in the pinned program and in every row, IS THE sha256 OF THE DUMP (.gsa) THAT YbulkednkProg.lean LOADS. Nothing in Lean hashes anything: it is a label: what it is worth is what the hold of that sum in a sandbox is worth. -/
noncomputable def Yba.pinned : Pinned := { name := "ybulkednk", sum := "95611ae680d9a95765e623037570f68450b3fd8aa1fc095a074bfb760f839547", checked := Yba.checked }
namespace Rows
def none {H : Type} : Left H := { results := [], args := [] }

/-- 'node.LawS6497AWhole': WHATEVER THE INPUT: true; the input reads as it did. -/
def lawS6497AWholeSpec : ChangeSpec := { name := "lawS6497AWhole", fn := fun _ => fun
  | [d1, d2, d3, d4] => { results := [.lit (.bool true)], args := [d1, d2, d3, d4] }
  | _ => none }
def lawS6497AWholeRow : OpenClaim := { program := "ybulkednk", sum := "95611ae680d9a95765e623037570f68450b3fd8aa1fc095a074bfb760f839547", func := "example.com/kindred/kindred/node.LawS6497AWhole", spec := "lawS6497AWhole", inPlace := ["(*internal/sync.Mutex).Lock", "internal/race.Disable", "sync/atomic.CompareAndSwapInt32", "internal/race.Enable", "internal/race.Acquire", "(*internal/sync.Mutex).lockSlow", "internal/sync.runtime_canSpin", "internal/sync.runtime_doSpin", "internal/sync.throw", "internal/sync.runtime_nanotime", "internal/sync.runtime_SemacquireMutex", "sync/atomic.AddInt32", "(*internal/sync.Mutex).Unlock", "internal/race.ReleaseMerge", "(*internal/sync.Mutex).unlockSlow", "internal/sync.fatal", "internal/sync.runtime_Semrelease", "(*internal/sync.Mutex).TryLock"], plainKeys := false, apart := false }
def LawS6497AWholeSaid : Prop := lawS6497AWholeRow.holds Yba.pinned (OpenSpec.ofChange lawS6497AWholeSpec)

/-- ITS FALSE NEIGHBOUR: 'it returns false'. Refute it at one input. -/
def lawS6497AWholeWrong : ChangeSpec := { name := "lawS6497AWhole", fn := fun _ => fun
  | [d1, d2, d3, d4] => { results := [.lit (.bool false)], args := [d1, d2, d3, d4] }
  | _ => none }
def LawS6497AWholeWrongFalsely : Prop := lawS6497AWholeRow.holds Yba.pinned (OpenSpec.ofChange lawS6497AWholeWrong)

/-- 'wire.LawS6497BWhole': WHATEVER THE INPUT: true; the input reads as it did. -/
def lawS6497BWholeSpec : ChangeSpec := { name := "lawS6497BWhole", fn := fun _ => fun
  | [d1, d2, d3, d4, d5, d6] => { results := [.lit (.bool true)], args := [d1, d2, d3, d4, d5, d6] }
  | _ => none }
def lawS6497BWholeRow : OpenClaim := { program := "ybulkednk", sum := "95611ae680d9a95765e623037570f68450b3fd8aa1fc095a074bfb760f839547", func := "example.com/kindred/kindred/wire.LawS6497BWhole", spec := "lawS6497BWhole", plainKeys := false, apart := false }
def LawS6497BWholeSaid : Prop := lawS6497BWholeRow.holds Yba.pinned (OpenSpec.ofChange lawS6497BWholeSpec)

/-- ITS FALSE NEIGHBOUR: 'it returns false'. Refute it at one input. -/
def lawS6497BWholeWrong : ChangeSpec := { name := "lawS6497BWhole", fn := fun _ => fun
  | [d1, d2, d3, d4, d5, d6] => { results := [.lit (.bool false)], args := [d1, d2, d3, d4, d5, d6] }
  | _ => none }
def LawS6497BWholeWrongFalsely : Prop := lawS6497BWholeRow.holds Yba.pinned (OpenSpec.ofChange lawS6497BWholeWrong)

/-- 'wire.LawS6497BSeq': WHATEVER THE INPUT: true; the input reads as it did. -/
def lawS6497BSeqSpec : ChangeSpec := { name := "lawS6497BSeq", fn := fun _ => fun
  | [d1, d2, d3, d4, d5, d6, d7, d8, d9] => { results := [.lit (.bool true)], args := [d1, d2, d3, d4, d5, d6, d7, d8, d9] }
  | _ => none }
def lawS6497BSeqRow : OpenClaim := { program := "ybulkednk", sum := "95611ae680d9a95765e623037570f68450b3fd8aa1fc095a074bfb760f839547", func := "example.com/kindred/kindred/wire.LawS6497BSeq", spec := "lawS6497BSeq", plainKeys := false, apart := false }
def LawS6497BSeqSaid : Prop := lawS6497BSeqRow.holds Yba.pinned (OpenSpec.ofChange lawS6497BSeqSpec)

/-- ITS FALSE NEIGHBOUR: 'it returns false'. Refute it at one input. -/
def lawS6497BSeqWrong : ChangeSpec := { name := "lawS6497BSeq", fn := fun _ => fun
  | [d1, d2, d3, d4, d5, d6, d7, d8, d9] => { results := [.lit (.bool false)], args := [d1, d2, d3, d4, d5, d6, d7, d8, d9] }
  | _ => none }
def LawS6497BSeqWrongFalsely : Prop := lawS6497BSeqRow.holds Yba.pinned (OpenSpec.ofChange lawS6497BSeqWrong)

end Rows
end Go.Proofs.Ybulkednk
