import Derived.Test.YbulkedlgDoorTz
import Derived.Laws.Rows
import Derived.Deep.MidRow
namespace Go.Proofs.YbulkedlgDoor
open Go.RowKit
set_option linter.unusedVariables false

/-! ### the plain side: what the counts become -/
structure Inp where
  n : Nat
  f : Nat → Nat
  m : Nat → Nat
  lst : Nat → Nat → Int
  p : Nat → Nat → Nat
  K : Nat → Option Nat
  Bf : Nat → Nat
  sz : Nat → Int
  al : Int

/-- The scan's answers are right, the numbers in their bounds. -/
structure Inp.ok (I : Inp) (c : Nat) : Prop where
  c64 : c < 18446744073709551616
  f2 : ∀ i, i < I.n → 2 ≤ I.f i ∧ I.f i ≤ 63
  p3 : ∀ i j, i < I.n → j < I.m i → I.p i j < 3
  lst8 : ∀ i j, i < I.n → j < I.m i → -128 ≤ I.lst i j ∧ I.lst i j ≤ 127
  kNone : ∀ i, i < I.n → I.K i = none → NoK c (I.f i)
  kSome : ∀ i k, i < I.n → I.K i = some k → IsK c (I.f i) k
  isB : ∀ i, i < I.n → IsB c (I.f i) (I.Bf i)
  sz8 : ∀ q, q < 64 → 0 ≤ I.sz q ∧ I.sz q ≤ 255
  al64 : -9223372036854775808 ≤ I.al ∧ I.al ≤ 9223372036854775807
  nb : I.n ≤ 65536
  mb : ∀ i, i < I.n → I.m i ≤ 1048576

def upd (v : Nat → Int) (i : Nat) (x : Int) : Nat → Int := fun j => if j = i then x else v j
def sOf (I : Inp) (k : Nat) : Nat := ((I.sz k - I.al) % 16).toNat
/-- One band's three turns. -/
def stepB (s ct rn p : Nat) (v : Nat → Int) : Nat → Int :=
  let v1 := upd v (p * 256 + (ct % 16 * 16 + s)) ((v (p * 256 + (ct % 16 * 16 + s)) - 1) % 4294967296)
  let v2 := upd v1 (p * 256 + (rn % 16 * 16 + s)) ((v1 (p * 256 + (rn % 16 * 16 + s)) + 1) % 4294967296)
  upd v2 (p * 256 + 240) ((v2 (p * 256 + 240) + ((rn : Int) / 16 - (ct : Int) / 16)) % 4294967296)
def bandsTo (I : Inp) (i k ct rn : Nat) : Nat → (Nat → Int) → (Nat → Int)
  | 0, v => v
  | j + 1, v => if (k : Int) ≤ I.lst i j then stepB (sOf I k) ct rn (I.p i j) (bandsTo I i k ct rn j v) else bandsTo I i k ct rn j v
def stepS (I : Inp) (i : Nat) (v : Nat → Int) : Nat → Int :=
  match I.K i with
  | none => v
  | some k => if k - I.Bf i - 1 = k - I.f i then v else bandsTo I i k (k - I.Bf i - 1) (k - I.f i) (I.m i) v
def startsTo (I : Inp) : Nat → (Nat → Int) → (Nat → Int)
  | 0, v => v
  | i + 1, v => stepS I i (startsTo I i v)

theorem sOf_lt (I : Inp) (k : Nat) : sOf I k < 16 := by unfold sOf; omega

/-! ### the pool -/
def pv (v : Nat → Int) : Array Value := ((List.range 768).map fun i => Value.int .u32 (v i)).toArray
theorem pv_size (v : Nat → Int) : (pv v).size = 768 := by simp [pv]
theorem pv_get (v : Nat → Int) (i : Nat) (h : i < 768) : (pv v)[i]? = some (.int .u32 (v i)) := by simp [pv, h]
theorem pv_set (v : Nat → Int) (i : Nat) (x : Int) : (pv v).setIfInBounds i (.int .u32 x) = pv (upd v i x) := by
  apply Array.ext_getElem?
  intro j
  by_cases hj : j < 768
  · rw [pv_get _ _ hj]
    by_cases e : i = j
    · subst e
      rw [Array.getElem?_setIfInBounds_self_of_lt (by rw [pv_size]; exact hj)]
      simp [upd]
    · rw [Array.getElem?_setIfInBounds_ne e, pv_get _ _ hj]
      simp [upd, Ne.symm e]
  · rw [Array.getElem?_eq_none (by simp [pv_size]; omega), Array.getElem?_eq_none (by simp [pv_size]; omega)]

def PoolAt (W : World) (pb : Nat) (v : Nat → Int) : Prop := W.heap[pb]? = some (.cells (pv v) 31 (0, 0))
theorem PoolAt.cell {W : World} {pb : Nat} {v : Nat → Int} (h : PoolAt W pb v) {i : Nat} (hi : i < 768) : W.cell? ⟨pb, i, none⟩ = some (.int .u32 (v i)) := by
  rw [cell_of_row _ _ _ _ _ _ h]; exact pv_get v i hi
theorem PoolAt.free {W : World} {pb : Nat} {v : Nat → Int} (h : PoolAt W pb v) (i : Nat) : W.frozen? ⟨pb, i, none⟩ = false := frozen_of_row W _ _ _ _ h
theorem PoolAt.put {W : World} {pb : Nat} {v : Nat → Int} (h : PoolAt W pb v) (i : Nat) (x : Int) : PoolAt (W.setCell ⟨pb, i, none⟩ (.int .u32 x)) pb (upd v i x) := by
  unfold PoolAt
  rw [heap_setCell_same W pb i _ _ _ h, pv_set]
theorem PoolAt.lt {W : World} {pb : Nat} {v : Nat → Int} (h : PoolAt W pb v) : pb < W.heap.size := (Array.getElem?_eq_some_iff.1 h).1
theorem PoolAt.of_block {W W' : World} {pb : Nat} {v : Nat → Int} (h : PoolAt W pb v) (hb : W'.heap[pb]? = W.heap[pb]?) : PoolAt W' pb v := by
  unfold PoolAt; rw [hb]; exact h

/-- All but block pb stands as it did. -/
structure Kp (pb : Nat) (W W' : World) : Prop where
  os : W'.os = W.os
  tape : W'.tape = W.tape
  output : W'.output = W.output
  size : W.heap.size ≤ W'.heap.size
  block : ∀ b, b < W.heap.size → b ≠ pb → W'.heap[b]? = W.heap[b]?
theorem Kp.refl (pb : Nat) (W : World) : Kp pb W W := ⟨rfl, rfl, rfl, Nat.le_refl _, fun _ _ _ => rfl⟩
theorem Kp.trans {pb : Nat} {a b c : World} (h : Kp pb a b) (k : Kp pb b c) : Kp pb a c :=
  ⟨k.os.trans h.os, k.tape.trans h.tape, k.output.trans h.output, Nat.le_trans h.size k.size, fun i hi hn => (k.block i (Nat.lt_of_lt_of_le hi h.size) hn).trans (h.block i hi hn)⟩
theorem Kp.set {pb : Nat} {a W : World} (h : Kp pb a W) (i : Nat) (u : Value) : Kp pb a (W.setCell ⟨pb, i, none⟩ u) :=
  h.trans ⟨rfl, rfl, rfl, by simp [World.setCell], fun b _ hn => Below.heap_setCell _ _ _ _ hn⟩
theorem Kp.alloc {pb : Nat} {a W : World} (h : Kp pb a W) (o : Obj) : Kp pb a (W.alloc o) :=
  h.trans ⟨rfl, rfl, rfl, by simp, fun b hb _ => Below.heap_alloc _ _ _ hb⟩
theorem Kp.drew {pb : Nat} {a W : World} (h : Kp pb a W) : Kp pb a W.drew := ⟨h.os, h.tape, h.output, h.size, h.block⟩
theorem Kp.cell {pb : Nat} {W W' : World} (h : Kp pb W W') {x : Addr} {u : Value} (hc : W.cell? x = some u) (hn : x.block ≠ pb) : W'.cell? x = some u := by
  rw [World.cell?_of_block (w := W) (h.block x.block (World.block_lt_of_cell? _ _ hc) hn)]; exact hc
theorem Kp.below {pb B : Nat} {W W' : World} (h : Kp pb W W') (hB : B ≤ W.heap.size) (hp : B ≤ pb) : Below B W W' :=
  ⟨h.os, h.tape, h.output, h.size, fun k hk => h.block k (by omega) (by omega)⟩

/-! ### the bands -/
def bandC (pb f : Nat) (last : Int) (p : Nat) : Array Value := #[.int .i64 f, .int .i64 last, .int .u64 0, .pointer (some ⟨pb, p * 256, none⟩), .int .i64 0, .int .i64 0, .int .i64 0, .int .i64 0, .int .i64 0, .int .i64 0, .int .i64 0, .int .i64 0, .int .i64 0, .int .i64 0, .int .i64 0, .int .i64 0, .int .i64 0, .int .i64 0, .int .i64 0, .int .i64 0, .int .i64 0]

/-- The start i's bands, j of them laid. -/
structure St (W : World) (pb gb f m : Nat) (lst : Nat → Int) (p : Nat → Nat) (gc : Nat → Nat) : Prop where
  row : ∀ j, j < m → W.cell? ⟨gb, j, none⟩ = some (.pointer (some ⟨gc j, 0, none⟩))
  rne : gb ≠ pb
  band : ∀ j, j < m → W.heap[gc j]? = some (.cells (bandC pb f (lst j) (p j)) 41 (0, 0))
  bne : ∀ j, j < m → gc j ≠ pb

/-- All the starts. -/
structure Gr (W : World) (pb gl : Nat) (I : Inp) (gb : Nat → Nat) (gc : Nat → Nat → Nat) : Prop where
  gne : gl ≠ pb
  one : ∀ i, i < I.n → W.cell? ⟨gl, i * 2, none⟩ = some (.int .i64 (I.f i))
  two : ∀ i, i < I.n → W.cell? ⟨gl, i * 2 + 1, none⟩ = some (.slice (some ⟨gb i, 0, none⟩) (I.m i) (I.m i))
  st : ∀ i, i < I.n → St W pb (gb i) (I.f i) (I.m i) (I.lst i) (I.p i) (gc i)

theorem St.later {W W' : World} {pb gb f m : Nat} {lst : Nat → Int} {p : Nat → Nat} {gc : Nat → Nat} (h : St W pb gb f m lst p gc) (hk : Kp pb W W') : St W' pb gb f m lst p gc :=
  ⟨fun j hj => hk.cell (h.row j hj) h.rne, h.rne, fun j hj => by
    have hb := h.band j hj
    rw [hk.block _ (Array.getElem?_eq_some_iff.1 hb).1 (h.bne j hj)]; exact hb, h.bne⟩
theorem Gr.later {W W' : World} {pb gl : Nat} {I : Inp} {gb : Nat → Nat} {gc : Nat → Nat → Nat} (h : Gr W pb gl I gb gc) (hk : Kp pb W W') : Gr W' pb gl I gb gc :=
  ⟨h.gne, fun i hi => hk.cell (h.one i hi) h.gne, fun i hi => hk.cell (h.two i hi) h.gne, fun i hi => (h.st i hi).later hk⟩
end Go.Proofs.YbulkedlgDoor
