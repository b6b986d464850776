import Derived.Test.YbulkedomPl
import Derived.WalkKit
import Derived.WalkSpells
import Derived.Sort.Defs
namespace Go.Proofs.Ybulkedom
open Go.RowKit Go.Sort
set_option linter.unusedVariables false

theorem hide {p : Prop} (h : p) : Hid p := h
def cmpI (x y : Int) : Int := if x < y then -1 else if y < x then 1 else 0
theorem cmpI_neg (x y : Int) : cmpI x y < 0 ↔ x < y := by unfold cmpI; split <;> (try split) <;> omega
theorem ret_int {a b : Int} (h : a = b) : Ending.returned (.int .i64 a) = .returned (.int .i64 b) := by rw [h]

theorem isNaN_any (x : Int) (w : World) : Calls Yba.prog 18 #[.int .i64 x] w fun e w' => e = .returned (.bool false) ∧ w' = w := by
  go_enter Yba.func18, Yba.ntmps18
  go_wp2
  go_ret
  exact ⟨by simp, rfl⟩

theorem compare_any (x y : Int) (w : World) : Calls Yba.prog 15 #[.int .i64 x, .int .i64 y] w fun e w' => e = .returned (.int .i64 (cmpI x y)) ∧ w' = w := by
  by_cases h1 : x < y
  · have HE := hide (show cmpI x y = -1 by unfold cmpI; rw [if_pos h1])
    go_enter Yba.func15, Yba.ntmps15
    go_wp2_with (go_at_call 18; refine (isNaN_any _ _).mono ?_; rintro e w' ⟨rfl, hw⟩; obtain rfl := hw.symm)
    go_ret
    exact ⟨ret_int (by rw [HE.out]), rfl⟩
  · by_cases h2 : y < x
    · have HE := hide (show cmpI x y = 1 by unfold cmpI; rw [if_neg h1, if_pos h2])
      go_enter Yba.func15, Yba.ntmps15
      go_wp2_with (go_at_call 18; refine (isNaN_any _ _).mono ?_; rintro e w' ⟨rfl, hw⟩; obtain rfl := hw.symm)
      go_ret
      exact ⟨ret_int (by rw [HE.out]), rfl⟩
    · have HE := hide (show cmpI x y = 0 by unfold cmpI; rw [if_neg h1, if_neg h2])
      go_enter Yba.func15, Yba.ntmps15
      go_wp2_with (go_at_call 18; refine (isNaN_any _ _).mono ?_; rintro e w' ⟨rfl, hw⟩; obtain rfl := hw.symm)
      go_ret
      exact ⟨ret_int (by rw [HE.out]), rfl⟩

/-- The cells of a placed module that is built in. -/
def pmC (f n : ByteArray) (pl : Int) : List Value := [.string f, .string n, .string ByteArray.empty, .string ByteArray.empty, .string ByteArray.empty, .int .i64 0, .int .i64 pl]

set_option maxRecDepth 100000 in
theorem byPlace_any (f n g m : ByteArray) (x y : Int) (w : World) : Calls Yba.prog 13 #[.agg (pmC f n x).toArray, .agg (pmC g m y).toArray] w fun e w' => e = .returned (.int .i64 (cmpI x y)) ∧ w' = (w.alloc (.cells (pmC f n x).toArray 47)).alloc (.cells (pmC g m y).toArray 47) := by
  unfold pmC
  go_enter Yba.func13, Yba.ntmps13
  go_wp2_with (go_at_call 15; refine (compare_any _ _ _).mono ?_; rintro e w' ⟨rfl, hw⟩; obtain rfl := hw.symm)
  go_ret
  exact ⟨rfl, rfl⟩
end Go.Proofs.Ybulkedom
