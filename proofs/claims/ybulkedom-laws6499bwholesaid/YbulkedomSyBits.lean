import Derived.Test.YbulkedomRo
import Derived.Deep.RegionHeld3
import Derived.Deep.DrawnRows
import Derived.Deep.CutBlock
import Derived.Deep.DeepCutAuto
namespace Go.Proofs.Ybulkedom
open Go.RowKit Go.Sort
set_option linter.unusedVariables false

theorem half (x y : Nat) (h : x + y ≤ 9223372036854775807) : ((x : Int) + (y : Int)) / 2 = (((x + y) / 2 : Nat) : Int) := by omega
/-- What byPlace leaves: a new block a side. -/
theorem keep2 {w : World} {o1 o2 : Obj} {p : Addr} {v : Value} (h : w.cell? p = some v) : ((w.alloc o1).alloc o2).cell? p = some v := by
  have hp := World.block_lt_of_cell? _ _ h
  rw [World.cell?_alloc_lt _ _ _ (by simp; omega), World.cell?_alloc_lt _ _ _ hp]; exact h

theorem keep2d {w w1 : World} {o1 o2 : Obj} {p : Addr} {v : Value} (hw : w1 = (w.drew.alloc o1).alloc o2) (h : w.cell? p = some v) : w1.cell? p = some v := by
  subst hw; exact keep2 (w := w.drew) h

end Go.Proofs.Ybulkedom
