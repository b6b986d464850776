import Derived.Test.YbulkednkFmtGet
import Derived.Deep.CutBlock
import Derived.Deep.DeepCutAuto
import Derived.Deep.DrawnRows
namespace Go.Proofs.YbulkednkFmt
open Go.RowKit Go.Maps
set_option linter.unusedVariables false

/-! ### what a search becomes -/
def cStep (A : Array Value) (o : Nat) (t : ByteArray) : Array Value × Bool :=
  if t = ByteArray.empty then (A, false) else match numOf t.data.toList with
  | some k => if 1 ≤ k then (A.setIfInBounds o (.int .i64 k), false) else (A, true)
  | none => (A, true)
def nStep (A : Array Value) (t : ByteArray) : Array Value × Bool :=
  if t = ByteArray.empty then (A, false) else match numOf t.data.toList with
  | some k => ((A.setIfInBounds 6 (.int .i64 k)).setIfInBounds 7 (.bool true), false)
  | none => (A, true)
def bStep (A : Array Value) (o : Nat) (t : ByteArray) : Array Value × Bool :=
  if t = ByteArray.empty then (A, false) else match Lib.parseBool t.data.toList with
  | some b => (A.setIfInBounds o (.bool b), false)
  | none => (A, true)
def A0 (q : ByteArray) : Array Value := #[.string q, .bool false, .bool false, .int .i64 0, .int .i64 0, .int .i64 0, .int .i64 0, .bool false, .bool false]
/-- Behind j counts. -/
def cRun (T : Nat → ByteArray) : Nat → Array Value × Bool
  | 0 => (A0 (T 0), false)
  | j + 1 => if (cRun T j).2 then cRun T j else cStep (cRun T j).1 (co j) (T (j + 1))
def nRun (T : Nat → ByteArray) : Array Value × Bool := if (cRun T 3).2 then cRun T 3 else nStep (cRun T 3).1 (T 4)
/-- Behind j flags. -/
def fRun (T : Nat → ByteArray) : Nat → Array Value × Bool
  | 0 => nRun T
  | j + 1 => if (fRun T j).2 then fRun T j else bStep (fRun T j).1 (fo j) (T (5 + j))

/-- The names, in the law's order. -/
def nmL : List ByteArray := [⟨#[113]⟩, ⟨#[119, 97, 108, 107, 101, 114, 115]⟩, ⟨#[116, 116, 108]⟩, ⟨#[103, 111, 97, 108]⟩, ⟨#[110, 117, 109, 98, 101, 114]⟩, ⟨#[101, 120, 97, 99, 116]⟩, ⟨#[101, 120, 97, 99, 116, 45, 119, 111, 114, 100, 115]⟩, ⟨#[104, 111, 108, 100, 45, 111, 117, 116]⟩]
def nm (i : Nat) : ByteArray := nmL.getD i ByteArray.empty

/-- Nine cells of a search. -/
def Wf (A : Array Value) : Prop := ∃ q b1 b2 i3 i4 i5 i6 b7 b8, A = #[.string q, .bool b1, .bool b2, .int .i64 i3, .int .i64 i4, .int .i64 i5, .int .i64 i6, .bool b7, .bool b8]

theorem Wf.int {A : Array Value} (h : Wf A) {j : Nat} (hj : j < 3) (k : Int) : Wf (A.setIfInBounds (co j) (.int .i64 k)) := by
  obtain ⟨q, b1, b2, i3, i4, i5, i6, b7, b8, rfl⟩ := h
  match j, hj with
  | 0, _ => exact ⟨q, b1, b2, k, i4, i5, i6, b7, b8, rfl⟩
  | 1, _ => exact ⟨q, b1, b2, i3, k, i5, i6, b7, b8, rfl⟩
  | 2, _ => exact ⟨q, b1, b2, i3, i4, k, i6, b7, b8, rfl⟩
theorem Wf.bool {A : Array Value} (h : Wf A) {j : Nat} (hj : j < 3) (b : Bool) : Wf (A.setIfInBounds (fo j) (.bool b)) := by
  obtain ⟨q, b1, b2, i3, i4, i5, i6, b7, b8, rfl⟩ := h
  match j, hj with
  | 0, _ => exact ⟨q, b, b2, i3, i4, i5, i6, b7, b8, rfl⟩
  | 1, _ => exact ⟨q, b1, b, i3, i4, i5, i6, b7, b8, rfl⟩
  | 2, _ => exact ⟨q, b1, b2, i3, i4, i5, i6, b7, b, rfl⟩
theorem Wf.num {A : Array Value} (h : Wf A) (k : Int) : Wf ((A.setIfInBounds 6 (.int .i64 k)).setIfInBounds 7 (.bool true)) := by
  obtain ⟨q, b1, b2, i3, i4, i5, i6, b7, b8, rfl⟩ := h
  exact ⟨q, b1, b2, i3, i4, i5, k, true, b8, rfl⟩
theorem Wf.start (q : ByteArray) : Wf (A0 q) := ⟨q, false, false, 0, 0, 0, 0, false, false, rfl⟩
theorem wf_cRun (T : Nat → ByteArray) : ∀ j, j ≤ 3 → Wf (cRun T j).1
  | 0, _ => Wf.start _
  | j + 1, h => by
    have ih := wf_cRun T j (by omega)
    unfold cRun
    split
    · exact ih
    · unfold cStep
      split
      · exact ih
      · split
        · split
          · exact ih.int (by omega) _
          · exact ih
        · exact ih
theorem wf_nRun (T : Nat → ByteArray) : Wf (nRun T).1 := by
  have ih := wf_cRun T 3 (by omega)
  unfold nRun
  split
  · exact ih
  · unfold nStep
    split
    · exact ih
    · split
      · exact ih.num _
      · exact ih
theorem wf_fRun (T : Nat → ByteArray) : ∀ j, j ≤ 3 → Wf (fRun T j).1
  | 0, _ => wf_nRun T
  | j + 1, h => by
    have ih := wf_fRun T j (by omega)
    unfold fRun
    split
    · exact ih
    · unfold bStep
      split
      · exact ih
      · split
        · exact ih.bool (by omega) _
        · exact ih
theorem Wf.size {A : Array Value} (h : Wf A) : A.size = 9 := by
  obtain ⟨q, b1, b2, i3, i4, i5, i6, b7, b8, rfl⟩ := h; rfl
theorem Wf.one {A : Array Value} (h : Wf A) : A.all (·.oneCell') = true := by
  obtain ⟨q, b1, b2, i3, i4, i5, i6, b7, b8, rfl⟩ := h
  rw [Array.all_eq_true_iff_forall_mem]
  intro x hx
  simp at hx
  rcases hx with rfl | rfl | rfl | rfl | rfl | rfl | rfl | rfl | rfl <;> rfl

/-- Once failed, for good. -/
theorem fail_c (T : Nat → ByteArray) {i : Nat} (h : (cRun T i).2 = true) : ∀ j, i ≤ j → cRun T j = cRun T i
  | 0, hj => by have : i = 0 := by omega
                subst this; rfl
  | j + 1, hj => by
    by_cases e : i = j + 1
    · subst e; rfl
    · have ih := fail_c T h j (by omega)
      rw [cRun, ih, if_pos h]
theorem fail_f (T : Nat → ByteArray) {i : Nat} (h : (fRun T i).2 = true) : ∀ j, i ≤ j → fRun T j = fRun T i
  | 0, hj => by have : i = 0 := by omega
                subst this; rfl
  | j + 1, hj => by
    by_cases e : i = j + 1
    · subst e; rfl
    · have ih := fail_f T h j (by omega)
      rw [fRun, ih, if_pos h]
theorem fail_cf (T : Nat → ByteArray) {i : Nat} (hi : i ≤ 3) (h : (cRun T i).2 = true) : fRun T 3 = cRun T i := by
  have h3 := fail_c T h 3 hi
  have hn : nRun T = cRun T i := by
    unfold nRun
    rw [h3, if_pos h]
  have h0 : (fRun T 0).2 = true := by show (nRun T).2 = true; rw [hn]; exact h
  rw [fail_f T h0 3 (by omega)]
  exact hn
theorem fail_nf (T : Nat → ByteArray) (h : (nRun T).2 = true) : fRun T 3 = nRun T := fail_f T (i := 0) h 3 (by omega)
end Go.Proofs.YbulkednkFmt
