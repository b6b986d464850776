import Derived.Test.YbulkedomSw
import Derived.Maps.OwnSet
import Derived.Maps.OwnIn
import Derived.Maps.Views
import Derived.BigRegion
namespace Go.Proofs.Ybulkedom
open Go.RowKit Go.Maps
set_option linter.unusedVariables false

def hv (v : Value) : Option (DataW Value × List MemPlace) := some (.held v, [])
theorem law9 : Keyed Yba.prog 9 := string_keyed Yba.underlying9
theorem key9 (s : ByteArray) (h : s.size ≤ maxLen) : keyOf Yba.prog 9 (.string s) = some (.string s.data.toList) := WideMaps.keyOf_string_mk Yba.underlying9 h
/-- The cells of a relation. -/
def rl (v f : ByteArray) (l : Int) : Array Value := #[.string v, .string f, .int .i64 l]
theorem zero31 (w : World) : (zeroValue 31).run Yba.prog w = .ok (.agg (rl ByteArray.empty ByteArray.empty 0)) w := by kernel_rfl
theorem zero3 (w : World) : (zeroValue 3).run Yba.prog w = .ok (.int .i64 0) w := by kernel_rfl
def kl (s : ByteArray) : Lit := .string s.data.toList
theorem kl_ne {s t : ByteArray} (h : s ≠ t) : kl s ≠ kl t := fun e => by
  have e' : s.data.toList = t.data.toList := by injection e
  apply h
  cases s; cases t
  congr 1
  exact Array.ext' e'

/-- The map of the disabled modules. -/
def MD (W : World) (b m : Nat) (dis : ByteArray → Bool) : Prop := ∃ n D, n ≤ m ∧ W.ownsMap Yba.prog 9 hv b n D ∧ ∀ s, Maps.has D (kl s) = dis s ∧ ∃ v f l, D.atKey (kl s) (.held (.agg (rl ByteArray.empty ByteArray.empty 0))) = .held (.agg (rl v f l))
/-- The map of the places. -/
def MF (W : World) (b m : Nat) (fst : ByteArray → Option Int) : Prop := ∃ n D, n ≤ m ∧ W.ownsMap Yba.prog 9 hv b n D ∧ ∀ s, Maps.has D (kl s) = (fst s).isSome ∧ D.atKey (kl s) (.held (.int .i64 0)) = .held (.int .i64 ((fst s).getD 0))

theorem ownsMap_later {w W : World} {b n : Nat} {D : DataW Value} (h : w.ownsMap Yba.prog 9 hv b n D) (hb : W.heap[b]? = w.heap[b]?) : W.ownsMap Yba.prog 9 hv b n D := by
  obtain ⟨es, clock, hb', F, hs, hD⟩ := h
  exact ⟨es, clock, by rw [hb]; exact hb', F, hs, hD⟩
theorem ownsMap_lt {w : World} {b n : Nat} {D : DataW Value} (h : w.ownsMap Yba.prog 9 hv b n D) : b < w.heap.size := h.lt
theorem MD.lt {W : World} {b m : Nat} {dis : ByteArray → Bool} (h : MD W b m dis) : b < W.heap.size := by obtain ⟨n, D, _, ho, _⟩ := h; exact ho.lt
theorem MF.lt {W : World} {b m : Nat} {fst : ByteArray → Option Int} (h : MF W b m fst) : b < W.heap.size := by obtain ⟨n, D, _, ho, _⟩ := h; exact ho.lt
theorem MD.of_block {W W' : World} {b m : Nat} {dis : ByteArray → Bool} (h : MD W b m dis) (hb : W'.heap[b]? = W.heap[b]?) : MD W' b m dis := by
  obtain ⟨n, D, hn, ho, hr⟩ := h
  exact ⟨n, D, hn, ownsMap_later ho hb, hr⟩
theorem MF.of_block {W W' : World} {b m : Nat} {fst : ByteArray → Option Int} (h : MF W b m fst) (hb : W'.heap[b]? = W.heap[b]?) : MF W' b m fst := by
  obtain ⟨n, D, hn, ho, hr⟩ := h
  exact ⟨n, D, hn, ownsMap_later ho hb, hr⟩
theorem MD.below {W W' : World} {b m : Nat} {dis : ByteArray → Bool} (h : MD W b m dis) (hb : Below W.heap.size W W') : MD W' b m dis := h.of_block (hb.block _ h.lt)
theorem MF.below {W W' : World} {b m : Nat} {fst : ByteArray → Option Int} (h : MF W b m fst) (hb : Below W.heap.size W W') : MF W' b m fst := h.of_block (hb.block _ h.lt)
theorem MD.new (w : World) (m : Nat) : MD (w.alloc (.map #[] 0)) w.heap.size m (fun _ => false) := ⟨0, .map [], Nat.zero_le _, World.ownsMap_made _ _ _ _, fun s => ⟨rfl, _, _, _, rfl⟩⟩
theorem MF.new (w : World) (m : Nat) : MF (w.alloc (.map #[] 0)) w.heap.size m (fun _ => none) := ⟨0, .map [], Nat.zero_le _, World.ownsMap_made _ _ _ _, fun s => ⟨rfl, rfl⟩⟩

/-- A name looked up in the first map. -/
theorem MD.look {W : World} {b m : Nat} {dis : ByteArray → Bool} (h : MD W b m dis) (s : ByteArray) (hs : s.size ≤ maxLen) : ∃ v f l, (Instr.lookup 24 (.map (some b)) (.string s) true).run Yba.prog W = .ok (.tuple #[.agg (rl v f l), .bool (dis s)]) W := by
  obtain ⟨n, D, hn, ho, hr⟩ := h
  obtain ⟨u, ps, hrun, hR⟩ := ho.look_ok (t := 24) (e := 31) law9 Yba.underlying24 (zero31 W) (zd := .held (.agg (rl ByteArray.empty ByteArray.empty 0))) (zp := []) rfl (key9 s hs)
  obtain ⟨h1, v, f, l, h2⟩ := hr s
  have h2' : D.atKey (.string s.data.toList) (.held (.agg (rl ByteArray.empty ByteArray.empty 0))) = .held (.agg (rl v f l)) := h2
  rw [h2'] at hR
  simp only [hv, Option.some.injEq, Prod.mk.injEq, DataW.held.injEq] at hR
  obtain ⟨rfl, _⟩ := hR
  have h1' : Maps.has D (.string s.data.toList) = dis s := h1
  rw [h1'] at hrun
  exact ⟨v, f, l, hrun⟩
theorem MF.look {W : World} {b m : Nat} {fst : ByteArray → Option Int} (h : MF W b m fst) (s : ByteArray) (hs : s.size ≤ maxLen) : (Instr.lookup 25 (.map (some b)) (.string s) true).run Yba.prog W = .ok (.tuple #[.int .i64 ((fst s).getD 0), .bool (fst s).isSome]) W := by
  obtain ⟨n, D, hn, ho, hr⟩ := h
  obtain ⟨u, ps, hrun, hR⟩ := ho.look_ok (t := 25) (e := 3) law9 Yba.underlying25 (zero3 W) (zd := .held (.int .i64 0)) (zp := []) rfl (key9 s hs)
  obtain ⟨h1, h2⟩ := hr s
  have h2' : D.atKey (.string s.data.toList) (.held (.int .i64 0)) = .held (.int .i64 ((fst s).getD 0)) := h2
  rw [h2'] at hR
  simp only [hv, Option.some.injEq, Prod.mk.injEq, DataW.held.injEq] at hR
  obtain ⟨rfl, _⟩ := hR
  have h1' : Maps.has D (.string s.data.toList) = (fst s).isSome := h1
  rw [h1'] at hrun
  exact hrun
theorem MF.look1 {W : World} {b m : Nat} {fst : ByteArray → Option Int} (h : MF W b m fst) (s : ByteArray) (hs : s.size ≤ maxLen) : (Instr.lookup 25 (.map (some b)) (.string s) false).run Yba.prog W = .ok (.int .i64 ((fst s).getD 0)) W := by
  obtain ⟨n, D, hn, ho, hr⟩ := h
  obtain ⟨u, ps, hrun, hR⟩ := ho.lookup (t := 25) (e := 3) law9 Yba.underlying25 (zero3 W) (zd := .held (.int .i64 0)) (zp := []) rfl (key9 s hs)
  obtain ⟨h1, h2⟩ := hr s
  have h2' : D.atKey (.string s.data.toList) (.held (.int .i64 0)) = .held (.int .i64 ((fst s).getD 0)) := h2
  rw [h2'] at hR
  simp only [hv, Option.some.injEq, Prod.mk.injEq, DataW.held.injEq] at hR
  obtain ⟨rfl, _⟩ := hR
  exact hrun
end Go.Proofs.Ybulkedom
