import Derived.Test.YbulkedlgBw
namespace Go.Proofs.Ybulkedlg
open Go.RowKit
set_option linter.unusedVariables false

theorem str_of (l : List UInt8) : strOfNums (l.map fun c => (c.toNat : Int)) = ⟨l.toArray⟩ := by
  unfold strOfNums
  congr 1
  simp [Function.comp_def]

/-- A slice of the call's own, as a string. -/
theorem run_str {w : World} {B : Nat} {v : Value} {l : List UInt8} (h : w.ownsRow B 5 1 v l.length (bs l)) : (convert 23 9 v).run Yba.prog w = .ok (.string ⟨l.toArray⟩) w := by
  rcases h.2 with ⟨rfl, h0⟩ | ⟨g, cap, cur, rfl, _, hg, _, _, _, htake⟩
  · have : l = [] := List.length_eq_zero_iff.1 h0
    subst this
    exact run_convert_bytes_nil w 23 5 Yba.underlying23 Yba.underlying5 0 0 9 Yba.underlying9
  · have := run_convert_bytes_arg (P := Yba.prog) w 23 5 Yba.underlying23 Yba.underlying5 g 0 l.length cap (l.map fun c => (c.toNat : Int)) (by simp) (fun i hi => by
      rw [Nat.zero_add, h.cellAt i (by omega)]
      simp [bs, hi]) 9 Yba.underlying9
    rw [str_of] at this
    exact this

set_option maxHeartbeats 400000 in
theorem Equal_any (B1 B2 : Nat) (w : World) (v1 v2 : Value) (l1 l2 : List UInt8) (h1 : w.ownsRow B1 5 1 v1 l1.length (bs l1)) (h2 : w.ownsRow B2 5 1 v2 l2.length (bs l2)) :
    Calls Yba.prog 6 #[v1, v2] w fun e w' => e = .returned (.bool (l1 == l2)) ∧ w' = w := by
  have r1 := run_str h1
  have r2 := run_str h2
  clear h1 h2
  go_enter Yba.func6, Yba.ntmps6
  go_wp2
  go_ret
  exact ⟨ret_bool (by simp), rfl⟩
end Go.Proofs.Ybulkedlg
