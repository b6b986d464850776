import Derived.Test.YbulkedlgDoorRw
import Derived.ChangeKeysEq
import Derived.LaidEqlPtr
import Derived.Laws.StructEq
import Derived.Laws.Pointers
import Derived.Laws.Tables
namespace Go.Proofs.YbulkedlgDoor
open Go.RowKit
set_option linter.unusedVariables false

theorem eqItems_self (d : Nat) (e : TypeId) (c : Nat) (xs : Array Value) : ∀ (is : List Nat), (∀ q ∈ is, ∃ v, (∀ w, (part e xs (q * c)).run Ybad.prog w = .ok v w) ∧ ∀ w, (Op.equalIn d e v v).run Ybad.prog w = .ok true w) → ∀ w, (Op.eqItems d e c xs xs is).run Ybad.prog w = .ok true w
  | [], _, w => by simp [Op.eqItems]
  | q :: is, h, w => by
    obtain ⟨v, h1, h2⟩ := h q (by simp)
    simp [Op.eqItems, h1, h2, eqItems_self d e c xs is (fun z hz => h z (by simp [hz]))]

theorem eqArr (d : Nat) {t e : TypeId} {n c : Nat} (xs : Array Value) (hu : Ybad.prog.underlying t = some (.array n e)) (hs : (Ybad.prog.info? e).map (·.size) = some c)
    (h : ∀ q, q < n → ∃ v, (∀ w, (part e xs (q * c)).run Ybad.prog w = .ok v w) ∧ ∀ w, (Op.equalIn d e v v).run Ybad.prog w = .ok true w) (w : World) :
    (Op.equalIn (d + 1) t (.agg xs) (.agg xs)).run Ybad.prog w = .ok true w := by
  cases hi : Ybad.prog.info? e with
  | none => rw [hi] at hs; simp at hs
  | some i =>
    rw [hi] at hs
    simp at hs
    have hc : Ybad.prog.cellsOf e = c := by simp [Program.cellsOf, hi, hs]
    rw [run_equalIn_array w d xs xs hu hi, hc]
    exact eqItems_self d e c xs _ (fun q hq => h q (by simpa using hq)) w

theorem pInt (xs : Array Value) (o : Nat) (t : TypeId) (k : IntKind) (v : Value) (hu : Ybad.prog.underlying t = some (.int k)) (hx : xs[o]? = some v) (w : World) : (part t xs o).run Ybad.prog w = .ok v w := by
  simp [part, isAgg, run_underlying hu, hx]
theorem pPtr (xs : Array Value) (o : Nat) (t : TypeId) (e : TypeId) (v : Value) (hu : Ybad.prog.underlying t = some (.pointer e)) (hx : xs[o]? = some v) (w : World) : (part t xs o).run Ybad.prog w = .ok v w := by
  simp [part, isAgg, run_underlying hu, hx]
theorem pArr (xs : Array Value) (o : Nat) (t : TypeId) (e : TypeId) (n c : Nat) (hu : Ybad.prog.underlying t = some (.array n e)) (hs : (Ybad.prog.info? t).map (·.size) = some c) (w : World) : (part t xs o).run Ybad.prog w = .ok (.agg (xs.extract o (o + c))) w := by
  cases hi : Ybad.prog.info? t with
  | none => rw [hi] at hs; simp at hs
  | some i =>
    rw [hi] at hs
    simp at hs
    simp [part, isAgg, run_underlying hu, sizeOf, typeInfo, hi, hs]

theorem eInt (d : Nat) (t : TypeId) (k k' : IntKind) (a : Int) (h : Ybad.prog.underlying t = some (.int k')) (w : World) : (Op.equalIn (d + 1) t (.int k a) (.int k a)).run Ybad.prog w = .ok true w := by
  rw [run_equalIn_int w d t k k' a a h]; simp
theorem ePtrNil (d : Nat) (t : TypeId) (h : Ybad.prog.underlying t = some (.pointer (Ybad.prog.pointee t))) (w : World) : (Op.equalIn (d + 1) t (.pointer none) (.pointer none)).run Ybad.prog w = .ok true w := by
  rw [run_equalIn_pointer_nil w d t none h]; rfl
theorem ePtr38 (d : Nat) (a : Addr) (w : World) : (Op.equalIn (d + 1) 38 (.pointer (some a)) (.pointer (some a))).run Ybad.prog w = .ok true w := by
  have h30 : (Ybad.prog.info? 30).map (·.size) = some 256 := by kernel_rfl
  cases hi : Ybad.prog.info? 30 with
  | none => rw [hi] at h30; simp at h30
  | some i => simp [Op.equalIn, run_underlying Ybad.underlying38, sizeOf, typeInfo, hi, run_sameAddr_same]

/-- An array of integers equals itself. -/
theorem eqInts (d : Nat) {t e : TypeId} {n : Nat} {k : IntKind} (xs : Array Value) (hu : Ybad.prog.underlying t = some (.array n e)) (he : Ybad.prog.underlying e = some (.int k)) (hs : (Ybad.prog.info? e).map (·.size) = some 1)
    (h : ∀ q, q < n → ∃ z, xs[q]? = some (.int k z)) (w : World) : (Op.equalIn (d + 2) t (.agg xs) (.agg xs)).run Ybad.prog w = .ok true w :=
  eqArr (d + 1) xs hu hs (fun q hq => by
    obtain ⟨z, hz⟩ := h q hq
    exact ⟨_, pInt xs (q * 1) e k _ he (by rw [Nat.mul_one]; exact hz), eInt d e k k z he⟩) w

theorem s29 : (Ybad.prog.info? 29).map (·.size) = some 1 := by kernel_rfl
theorem s30 : (Ybad.prog.info? 30).map (·.size) = some 256 := by kernel_rfl
theorem s22 : (Ybad.prog.info? 22).map (·.size) = some 1 := by kernel_rfl
theorem s3 : (Ybad.prog.info? 3).map (·.size) = some 1 := by kernel_rfl
theorem s5 : (Ybad.prog.info? 5).map (·.size) = some 1 := by kernel_rfl

theorem eq30 (d : Nat) (xs : Array Value) (h : ∀ q, q < 256 → ∃ z, xs[q]? = some (.int .u32 z)) (w : World) : (Op.equalIn (d + 2) 30 (.agg xs) (.agg xs)).run Ybad.prog w = .ok true w :=
  eqInts d xs Ybad.underlying30 Ybad.underlying29 s29 h w

/-- Rows of 256 counts. -/
theorem eqRows (d : Nat) {t n : Nat} (xs : Array Value) (hu : Ybad.prog.underlying t = some (.array n 30)) (h : ∀ q, q < n * 256 → ∃ z, xs[q]? = some (.int .u32 z)) (w : World) : (Op.equalIn (d + 3) t (.agg xs) (.agg xs)).run Ybad.prog w = .ok true w :=
  eqArr (d + 2) xs hu s30 (fun q hq => ⟨_, pArr xs (q * 256) 30 29 256 256 Ybad.underlying30 s30, eq30 d _ (fun z hz => by
    have hlt : q * 256 + z < n * 256 := idx_lt hq hz
    obtain ⟨y, hy⟩ := h (q * 256 + z) hlt
    refine ⟨y, ?_⟩
    rw [Array.getElem?_extract, if_pos]
    · exact hy
    · have := (Array.getElem?_eq_some_iff.1 hy).1
      rw [Nat.min_def]
      split <;> omega)⟩) w

theorem eq31 (d : Nat) (v : Nat → Int) (w : World) : (Op.equalIn (d + 3) 31 (.agg (pv v)) (.agg (pv v))).run Ybad.prog w = .ok true w :=
  eqRows d (pv v) Ybad.underlying31 (fun q hq => ⟨_, pv_get v q hq⟩) w
theorem neq31 (v : Nat → Int) (w : World) : (binOp .neq 31 (.agg (pv v)) (.agg (pv v))).run Ybad.prog w = .ok (.bool false) w := by
  have h : (Op.equalIn 10000 31 (.agg (pv v)) (.agg (pv v))).run Ybad.prog w = .ok true w := eq31 9997 v w
  rw [run_neq_struct, h]
  rfl
end Go.Proofs.YbulkedlgDoor
