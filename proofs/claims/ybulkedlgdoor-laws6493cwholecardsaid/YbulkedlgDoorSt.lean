import Derived.Test.YbulkedlgDoorEq2
import Derived.Deep.DeepCutAuto
import Derived.Deep.CutBlock
import Derived.BigRegion
import Derived.BigQuiet
namespace Go.Proofs.YbulkedlgDoor
open Go.RowKit
set_option linter.unusedVariables false

/-- What the law is told of its starts. -/
structure ArgSt (w : World) (a : Option Addr) (n : Nat) (fst : Nat → Int) (ab : Nat → Option Addr) (m cb : Nat → Nat) (lst own : Nat → Nat → Int) : Prop where
  fb : ∀ i, i < n → 0 ≤ fst i ∧ fst i ≤ 255
  cells : 0 < n → ∃ b off, a = some ⟨b, off, none⟩ ∧ b < w.heap.size ∧ ∀ i, i < n → w.cell? ⟨b, off + i * 2, none⟩ = some (.int .u8 (fst i)) ∧ w.cell? ⟨b, off + i * 2 + 1, none⟩ = some (.slice (ab i) (m i) (cb i))
  bands : ∀ i, i < n → 0 < m i → ∃ b off, ab i = some ⟨b, off, none⟩ ∧ b < w.heap.size ∧ ∀ j, j < m i → w.cell? ⟨b, off + j * 2, none⟩ = some (.int .i8 (lst i j)) ∧ w.cell? ⟨b, off + j * 2 + 1, none⟩ = some (.int .u8 (own i j))
  lb : ∀ i j, i < n → j < m i → -128 ≤ lst i j ∧ lst i j ≤ 127 ∧ 0 ≤ own i j ∧ own i j ≤ 255
  mb : ∀ i, i < n → m i ≤ 70368744175616

/-- What it is told of its first counts. -/
def ArgU (w : World) (a : Option Addr) (n : Nat) (iv : Nat → Int) : Prop :=
  n = 0 ∨ ∃ x, a = some x ∧ ∀ j, j < n → w.cell? (x.add j) = some (.int .u32 (iv j))

/-- How many bands the first k starts have. -/
def total (m : Nat → Nat) : Nat → Nat
  | 0 => 0
  | k + 1 => total m k + m k
theorem total_le (m : Nat → Nat) (n M : Nat) (h : ∀ i, i < n → m i ≤ M) : ∀ k, k ≤ n → total m k ≤ k * M
  | 0, _ => by simp [total]
  | k + 1, hk => by
    have := total_le m n M h k (by omega)
    have := h k (by omega)
    rw [total, Nat.succ_mul]; omega
theorem le_total (m : Nat → Nat) : ∀ k i, i < k → m i ≤ total m k
  | 0, i, h => by omega
  | k + 1, i, h => by
    rw [total]
    by_cases e : i = k
    · subst e; omega
    · have := le_total m k i (by omega); omega

/-- The counts as the law's first loops lay them, t cells done. -/
def fillv (iv : Nat → Int) (n t : Nat) : Nat → Int := fun i => if i < t ∧ i < n then iv i else 0

theorem fillv_zero (iv : Nat → Int) (n : Nat) : fillv iv n 0 = fun _ => 0 := by
  funext i; simp [fillv]
theorem fillv_in (iv : Nat → Int) (n t : Nat) (h : t < n) : upd (fillv iv n t) t (iv t) = fillv iv n (t + 1) := by
  funext i
  unfold upd fillv
  by_cases e : i = t
  · subst e; simp [h]
  · simp only [e, if_false]
    have : (i < t ∧ i < n) ↔ (i < t + 1 ∧ i < n) := by omega
    simp [this]
theorem fillv_out (iv : Nat → Int) (n t : Nat) (h : ¬ t < n) : fillv iv n t = fillv iv n (t + 1) := by
  funext i
  unfold fillv
  have : (i < t ∧ i < n) ↔ (i < t + 1 ∧ i < n) := by omega
  simp [this]

/-- The first blocks. -/
structure S0 (w W : World) (sz : Nat → Int) : Prop where
  bel : Below w.heap.size w W
  szs : W.heap[w.heap.size]? = some (.cells (szL sz).toArray 23 (0, 0))
theorem S0.later {w W W' : World} {sz : Nat → Int} (h : S0 w W sz) (hb : Below (w.heap.size + 1) W W') : S0 w W' sz :=
  ⟨h.bel.trans (hb.mono (by omega)), by rw [hb.block _ (by omega)]; exact h.szs⟩
end Go.Proofs.YbulkedlgDoor
