import Derived.Test.YbulkedksFmtChk
import Derived.Deep.DeepCutAuto
import Derived.Deep.CutBlock
namespace Go.Proofs.YbulkedksFmt
open Go.RowKit Go.Extern.Stop Go.Stop Go.Extern
set_option linter.unusedVariables false

/-- The manifest's whole block. -/
def ManB (B : Nat) (W : World) (id : ByteArray) (sz cs : Int) (sv : Value) (comp : Bool) (hv : Int) : Prop :=
  W.heap[B + 1]? = some (.cells #[.string id, .int .i64 sz, .int .i64 cs, sv, .bool comp, .int .i64 hv] 26 (0, 0))

theorem H32_eq (hs : List UInt8) : H32 (hs.map fun c => (c.toNat : Int)) = (hs.map cell).toArray := by
  simp [H32, cell, Function.comp_def]

theorem hexof_bytes (hs : List UInt8) (w : World) (hl : hs.length = 32) :
    Calls Ybaf.prog 4 #[.agg (hs.map cell).toArray] w fun e w' => ∃ s : ByteArray, e = .returned (.string s) ∧ s.size = 64 ∧ Below w.heap.size w w' := by
  rw [← H32_eq]
  refine hexof_any _ w (by simpa using hl) fun i => ?_
  by_cases h : i < hs.length
  · have := hs[i].toNat_lt
    simp [List.getD, h]; omega
  · simp [List.getD, h]

theorem ManB.cell {B : Nat} {W : World} {id : ByteArray} {sz cs : Int} {sv : Value} {comp : Bool} {hv : Int} (h : ManB B W id sz cs sv comp hv) (j : Nat) :
    W.cell? ⟨B + 1, j, none⟩ = #[Value.string id, .int .i64 sz, .int .i64 cs, sv, .bool comp, .int .i64 hv][j]? := cell_of_row _ _ _ _ _ _ h
theorem ManB.free {B : Nat} {W : World} {id : ByteArray} {sz cs : Int} {sv : Value} {comp : Bool} {hv : Int} (h : ManB B W id sz cs sv comp hv) (j : Nat) : W.frozen? ⟨B + 1, j, none⟩ = false := frozen_of_row W _ _ _ _ h
theorem ManB.lt {B : Nat} {W : World} {id : ByteArray} {sz cs : Int} {sv : Value} {comp : Bool} {hv : Int} (h : ManB B W id sz cs sv comp hv) : B + 1 < W.heap.size := (Array.getElem?_eq_some_iff.1 h).1
theorem ManB.put {B : Nat} {W : World} {id : ByteArray} {sz cs : Int} {sv : Value} {comp : Bool} {hv : Int} (h : ManB B W id sz cs sv comp hv) (j : Nat) (u : Value) :
    (W.setCell ⟨B + 1, j, none⟩ u).heap[B + 1]? = some (.cells (#[Value.string id, .int .i64 sz, .int .i64 cs, sv, .bool comp, .int .i64 hv].setIfInBounds j u) 26 (0, 0)) :=
  heap_setCell_same W _ _ _ _ _ h
theorem ManB.below {B : Nat} {W W' : World} {id : ByteArray} {sz cs : Int} {sv : Value} {comp : Bool} {hv : Int} (h : ManB B W id sz cs sv comp hv) (hb : Below W.heap.size W W') : ManB B W' id sz cs sv comp hv := by
  unfold ManB; rw [hb.block _ h.lt]; exact h

theorem ManB.new (w : World) (o : Obj) (id : ByteArray) (sz cs : Int) (sv : Value) (comp : Bool) (hv : Int) : ManB w.heap.size ((w.alloc o).alloc (.cells #[.string id, .int .i64 sz, .int .i64 cs, sv, .bool comp, .int .i64 hv] 26)) id sz cs sv comp hv := by
  have h := heap_alloc_new (w.alloc o) (.cells #[.string id, .int .i64 sz, .int .i64 cs, sv, .bool comp, .int .i64 hv] 26)
  have e : (w.alloc o).heap.size = w.heap.size + 1 := by simp
  rw [e] at h
  exact h

/-- What stands behind the choice of the id. -/
def S1 (w : World) (comp : Bool) (hv : Int) (s : Value) (W : World) : Prop :=
  ∃ id wid : ByteArray, s = .string wid ∧ id.size ≤ maxLen ∧ ManB w.heap.size W id 0 0 (.slice none 0 0) comp hv ∧ Below w.heap.size w W

theorem Ybaf.info32 : (Ybaf.prog.info? 32).map (fun i => (i.zero, i.size, i.bytes)) = some (some (.agg #[.int .i64 0, .int .i64 0, .int .u8 0, .int .u8 0, .int .u8 0, .int .u8 0, .int .u8 0, .int .u8 0, .int .u8 0, .int .u8 0, .int .u8 0, .int .u8 0, .int .u8 0, .int .u8 0, .int .u8 0, .int .u8 0, .int .u8 0, .int .u8 0, .int .u8 0, .int .u8 0, .int .u8 0, .int .u8 0, .int .u8 0, .int .u8 0, .int .u8 0, .int .u8 0, .int .u8 0, .int .u8 0, .int .u8 0, .int .u8 0, .int .u8 0, .int .u8 0, .int .u8 0, .int .u8 0]), 34, 48) := by kernel_rfl

/-- A row of n chunks of the call's own. -/
def RowB (B g n : Nat) (W : World) : Prop := B + 2 ≤ g ∧ ∃ cur : Array Value, W.heap[g]? = some (.cells cur 32 (0, 0)) ∧ cur.size = n * 34

/-- What stands behind the making of the chunks. -/
def S2 (w : World) (a : Option Addr) (n : Nat) (id1 : ByteArray) (comp : Bool) (hv : Int) (s : Value) (W : World) : Prop :=
  ∃ a1, s = .slice a1 n n ∧ ManB w.heap.size W id1 0 0 (.slice none 0 0) comp hv ∧ Below w.heap.size w W ∧ ((a = none ∧ a1 = none ∧ n = 0) ∨ ∃ g, a.isSome = true ∧ a1 = some ⟨g, 0, none⟩ ∧ RowB w.heap.size g n W)

theorem S2_make {w W w1 : World} {n : Nat} {id1 : ByteArray} {comp : Bool} {hv : Int} {x : Addr} {xs : List Value} (hM : ManB w.heap.size W id1 0 0 (.slice none 0 0) comp hv) (hbel : Below w.heap.size w W)
    (hown : w1.ownsRow (w.heap.size + 2) 32 34 (.slice (some ⟨W.heap.size, 0, none⟩) n n) n xs) (hg : W.grownBy w1 none) :
    ManB w.heap.size w1 id1 0 0 (.slice none 0 0) comp hv ∧ Below w.heap.size w w1 ∧ ((some x = none ∧ (some ⟨W.heap.size, 0, none⟩ : Option Addr) = none ∧ n = 0) ∨ ∃ g, (some x).isSome = true ∧ (some ⟨W.heap.size, 0, none⟩ : Option Addr) = some ⟨g, 0, none⟩ ∧ RowB w.heap.size g n w1) := by
  have hlt := hM.lt
  refine ⟨?_, hbel.grown hg hbel.size (by simp), .inr ⟨W.heap.size, rfl, rfl, by omega, ?_⟩⟩
  · unfold ManB; rw [hg.block _ hlt (by simp)]; exact hM
  · rcases hown.2 with ⟨h', _⟩ | ⟨g, cap, cur, h', hb, hh, _, _, hsz, _⟩
    · simp at h'
    · simp only [Value.slice.injEq, Option.some.injEq, Addr.mk.injEq, and_true, true_and] at h'
      obtain ⟨rfl, rfl⟩ := h'
      exact ⟨cur, hh, hsz⟩

/-- The chunks in memory of the call's own. -/
def CksB (B : Nat) (W : World) (a : Option Addr) (n : Nat) (l : List Ck) : Prop :=
  n = l.length ∧ (∀ c ∈ l, c.hs.length = 32) ∧ ((a = none ∧ l = []) ∨ ∃ g, a = some ⟨g, 0, none⟩ ∧ B + 2 ≤ g ∧ g < W.heap.size ∧ ∀ k (h : k < l.length), W.rangeAt g (k * 34) l[k].cells)

/-- What stands behind the choice of the shape. -/
def S3 (w : World) (a1 : Option Addr) (n : Nat) (id1 : ByteArray) (comp : Bool) (hv : Int) (W : World) : Prop :=
  ∃ (sz cs : Int) (l : List Ck), (Lit.int .i64 sz).wf = true ∧ (Lit.int .i64 cs).wf = true ∧ ManB w.heap.size W id1 sz cs (.slice none 0 0) comp hv ∧ CksB w.heap.size W a1 n l ∧ Below w.heap.size w W

end Go.Proofs.YbulkedksFmt
