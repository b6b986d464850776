import Derived.Test.YbulkedomLw1
namespace Go.Proofs.Ybulkedom
open Go.RowKit Go.Maps
set_option linter.unusedVariables false

/-- The row that says which entries are used up behind j steps. -/
def Us (U : Nat) (W : World) (r : Nat) (q : Nat → Nat) (j : Nat) : Prop := Rb U 4 1 W U r (fun x => [.bool (usR q j x)])
theorem Us.cell {U : Nat} {W : World} {r : Nat} {q : Nat → Nat} {j i : Nat} (h : Us U W r q j) (hi : i < r) : W.cell? ⟨U, i, none⟩ = some (.bool (usR q j i)) := by
  have hc := Rb.cell h (k := i) (c := 0) hi rfl
  simpa using hc
theorem Us.later {U : Nat} {W W' : World} {r : Nat} {q : Nat → Nat} {j : Nat} (h : Us U W r q j) (hb : Below W.heap.size W W') : Us U W' r q j := Rb.below h hb (Rb.lt h)
theorem Us.lt {U : Nat} {W : World} {r : Nat} {q : Nat → Nat} {j : Nat} (h : Us U W r q j) : U < W.heap.size := Rb.lt h
theorem Us.frozen {U : Nat} {W : World} {r : Nat} {q : Nat → Nat} {j : Nat} (h : Us U W r q j) (t : Nat) : W.frozen? ⟨U, t, none⟩ = false := by
  obtain ⟨cur, hg, _⟩ := Rb.row h
  exact frozen_of_row W _ _ _ _ hg
theorem Us.use {U : Nat} {W : World} {r : Nat} {q : Nat → Nat} {j t : Nat} (h : Us U W r q j) (ht : q j = t) (hr : t < r) : Us U (W.setCell ⟨U, t, none⟩ (.bool true)) r q (j + 1) := by
  have hs := Rb.set h (i := t) (c := 0) hr (by omega) (.bool true)
  simp only [Nat.mul_one, Nat.add_zero] at hs
  refine hs.congr fun k hk => ?_
  show _ = [Value.bool (usR q j k || decide (q j = k))]
  by_cases e : k = t
  · subst e
    rw [if_pos rfl, decide_eq_true ht]; simp
  · rw [if_neg e, decide_eq_false (by rw [ht]; exact fun h => e h.symm)]; simp
theorem Us.set_below {U : Nat} {W8 W : World} {t : Nat} {v : Value} (h : Below U W8 W) : Below U W8 (W.setCell ⟨U, t, none⟩ v) := h.setCell (p := ⟨U, t, none⟩) (Nat.le_refl _) v
/-- What was laid before the row of marks, behind a mark. -/
theorem mark_block {U : Nat} {W : World} {t g : Nat} {v : Value} (h : g ≠ U) : (W.setCell ⟨U, t, none⟩ v).heap[g]? = W.heap[g]? := Below.heap_setCell _ _ _ _ h
theorem mark_cell {U : Nat} {W : World} {t g o : Nat} {v : Value} (h : g ≠ U) : (W.setCell ⟨U, t, none⟩ v).cell? ⟨g, o, none⟩ = W.cell? ⟨g, o, none⟩ := World.cell?_of_block (w := W) (mark_block h)
theorem neq31 (w : World) : (binOp .neq 31 (.agg #[.string ByteArray.empty, .string ByteArray.empty, .int .i64 0]) (.agg #[.string ⟨#[]⟩, .string ⟨#[]⟩, .int .i64 0])).run Yba.prog w = .ok (.bool false) w := by kernel_rfl
end Go.Proofs.Ybulkedom
