import Derived.Test.YbulkedomSt
namespace Go.Proofs.Ybulkedom
open Go.RowKit Go.Sort
set_option linter.unusedVariables false

theorem ins_nil (sl cm : Value) (w : World) : Calls Yba.prog 16 #[sl, .int .i64 0, .int .i64 0, cm] w fun e w' => e = .returned (.tuple #[]) ∧ w' = w := by
  go_enter Yba.func16, Yba.ntmps16
  go_wp2_with fail
  go_loopw [8] (fun s W => s = .int .i64 1 ∧ W = w) (fun _ _ => 0)
  case atStart => exact ⟨rfl, rfl⟩
  case round =>
    obtain ⟨rfl, hw⟩ := hrel
    obtain rfl := hw.symm
    go_wp2_with fail
    first | go_end0 | (simp only [Exit.inBlock, Exit.then]; refine bodyPost_ret (results_none rfl _ _ _) rfl ?_) | refine bodyPost_ret (results_none rfl _ _ _) rfl ?_
    exact ⟨rfl, rfl⟩
theorem stable_nil (sl cm : Value) (w : World) : Calls Yba.prog 14 #[sl, .int .i64 0, cm] w fun e w' => e = .returned (.tuple #[]) ∧ w' = w := by
  go_enter Yba.func14, Yba.ntmps14
  go_wp2_with fail
  go_loopw [7, 8] (fun s t W => s = .int .i64 0 ∧ t = .int .i64 20 ∧ W = w) (fun _ _ _ => 0)
  case atStart => exact ⟨rfl, rfl, rfl⟩
  case round =>
    obtain ⟨rfl, rfl, hw⟩ := hrel
    obtain rfl := hw.symm
    go_wp2_with fail
    refine (ins_nil sl cm _).mono ?_
    rintro e w' ⟨rfl, hw⟩
    obtain rfl := hw.symm
    go_wp2_with fail
    go_loopw [6] (fun s W => s = .int .i64 20 ∧ W = w) (fun _ _ => 0)
    case atStart => exact ⟨rfl, rfl⟩
    case round =>
      obtain ⟨rfl, hw⟩ := hrel
      obtain rfl := hw.symm
      go_wp2_with fail
      first | go_end0 | (simp only [Exit.inBlock, Exit.then]; refine bodyPost_ret (results_none rfl _ _ _) rfl ?_) | refine bodyPost_ret (results_none rfl _ _ _) rfl ?_
      exact ⟨rfl, rfl⟩
/-- slices.SortStableFunc of nothing. -/
theorem sort_nil (ao : Option Addr) (cap : Nat) (cm : Value) (w : World) : Calls Yba.prog 12 #[.slice ao 0 cap, cm] w fun e w' => e = .returned (.tuple #[]) ∧ w' = w := by
  have HC := hide (stable_nil (.slice ao 0 cap) cm w)
  go_enter Yba.func12, Yba.ntmps12
  go_wp2_with fail
  refine HC.out.mono ?_
  rintro e w' ⟨rfl, hw⟩
  obtain rfl := hw.symm
  go_wp2_with fail
  first | go_end0 | (simp only [Exit.inBlock, Exit.then]; refine bodyPost_ret (results_none rfl _ _ _) rfl ?_) | refine bodyPost_ret (results_none rfl _ _ _) rfl ?_
  exact ⟨rfl, rfl⟩
/-- slices.SortStableFunc by byPlace. -/
theorem sort_any (B : Nat) (g n cap : Nat) (f : ByteArray) (nam : Nat → ByteArray) (kp : Nat → Int) (w : World) (hP : Pm B w g n f nam kp (fun i => i)) (hn : n ≤ 1048576) :
    Calls Yba.prog 12 #[.slice (some ⟨g, 0, none⟩) n cap, .func (.func 13) #[] #[]] w fun e w' => e = .returned (.tuple #[]) ∧ ∃ q, Srt kp q 0 n ∧ Re (fun i => i) q 0 n ∧ Pm B w' g n f nam kp q ∧ Kp g w w' := by
  have HC := hide (stable_any B g n cap f nam kp w hP hn)
  clear hP
  go_enter Yba.func12, Yba.ntmps12
  go_wp2_with fail
  refine HC.out.mono ?_
  rintro e w' ⟨rfl, hw⟩
  have HW := hide hw
  clear hw
  go_wp2_with fail
  first | go_end0 | (simp only [Exit.inBlock, Exit.then]; refine bodyPost_ret (results_none rfl _ _ _) rfl ?_) | refine bodyPost_ret (results_none rfl _ _ _) rfl ?_
  exact ⟨rfl, HW.out⟩
end Go.Proofs.Ybulkedom
