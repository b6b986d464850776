import Derived.Test.YbulkedlgClone
import Derived.BigQuiet
import Derived.Deep.WholeRow
import Derived.Deep.QuietTactic
namespace Go.Proofs.Ybulkedlg
open Go.RowKit
set_option linter.unusedVariables false

theorem rangeAt_drewN {w : World} {b o : Nat} {cs : List Value} (h : w.rangeAt b o cs) (n : Nat) : (w.drewN n).rangeAt b o cs := fun j v hj => h j v hj

/-- A whole value loaded out of the middle of a block, in a region that only reads. -/
theorem wpQuiet_load_mid {P : Program} {ops : Array Oper} {w : World} {Q : Act → Prop} {a : Act} {o : Oper} {rest : List Oper} (ty : TypeId) (x : Operand) (ho : o.op = .load ty x) (hgd : o.guard = none)
    (b i : Nat) (hx : a.eval x = .pointer (some ⟨b, i, none⟩)) (cs : List Value) (d : TypeDesc) (hc : w.rangeAt b i cs)
    (hu : P.underlying ty = some d) (hd : d.isRow = true) (hi : (P.info? ty).map (·.size) = some cs.length)
    (h : wpQuiet P ops (fun w' => ∃ n, w' = w.drewN n) Q rest (a.put o.dst (.agg cs.toArray))) : wpQuiet P ops (fun w' => ∃ n, w' = w.drewN n) Q (o :: rest) a := by
  simp only [wpQuiet, Region.wanted, hgd, if_true]
  refine ⟨.agg cs.toArray, ?_, h⟩
  rintro w' ⟨n, rfl⟩
  unfold Oper.quietAt execOp
  simp only [ho, hx, Instr.loadAt, Instr.sureAddr, Sem.run_bind, Sem.run_pure, Result.andThen_ok, run_loadVar_mid (w.drewN n) b i ty cs d (rangeAt_drewN hc n) hu hd hi]
  exact ⟨rfl, rfl⟩

theorem at_quiet {P : Program} {ops : Array Oper} {C : World → Prop} {Q : Act → Prop} {a : Act} {o : Oper} {rest : List Oper} (p : Op) (_ : o.op = p) (k : wpQuiet P ops C Q (o :: rest) a) : wpQuiet P ops C Q (o :: rest) a := k

theorem size72 : (Yba.prog.info? 72).map (·.size) = some 4 := by kernel_rfl
theorem size66 : (Yba.prog.info? 66).map (·.size) = some 10 := by kernel_rfl
theorem size60 : (Yba.prog.info? 60).map (·.size) = some 9 := by kernel_rfl
theorem below_drewN' {B : Nat} {a w : World} (h : Below B a w) : ∀ n, Below B a (w.drewN n) := fun n => ⟨h.os, h.tape, h.output, h.size, h.block⟩

set_option maxRecDepth 100000 in
set_option maxHeartbeats 1000000 in
theorem equal12 (B1 B2 : Nat) (W : World) (a1 a2 : Option Addr) (n c1 c2 : Nat) (F : Nat → List Value) (h1 : Rs B1 72 4 W a1 n F) (h2 : Rs B2 72 4 W a2 n F)
    (hq : ∀ k, k < n → ∀ w, (Op.equalIn 10000 72 (.agg (F k).toArray) (.agg (F k).toArray)).run Yba.prog w = .ok true w) (hn : n ≤ 1048576) :
    Calls Yba.prog 12 #[.slice a1 n c1, .slice a2 n c2] W fun e W' => e = .returned (.bool true) ∧ Below W.heap.size W W' := by
  have HR1 := hide h1
  have HR2 := hide h2
  have HQ := hide hq
  clear h1 h2 hq
  go_enter Yba.func12, Yba.ntmps12
  go_wp2_with fail
  go_loopw [13] (fun i W' => ∃ k : Nat, k ≤ n ∧ i = .int .i64 k ∧ ∃ q, W' = W.drewN q) (fun i _ => n - (intOf i).toNat)
  case atStart => exact ⟨0, by omega, rfl, 0, rfl⟩
  case round =>
    obtain ⟨k, hk, rfl, q, rfl⟩ := hrel
    by_cases hlt : k < n
    · rcases HR1.out with ⟨_, h0⟩ | ⟨g, rfl, hr1⟩
      · omega
      rcases HR2.out with ⟨_, h0⟩ | ⟨g', rfl, hr2⟩
      · omega
      have hr1' := rangeAt_drewN (hr1.at_ k hlt) q
      have hr2' := rangeAt_drewN (hr2.at_ k hlt) q
      have hz : (Yba.prog.info? 72).map (·.size) = some (F k).length := by rw [hr1.len k hlt]; exact size72
      have heq := HQ.out k hlt
      clear hr1 hr2 HR1 HR2 HQ
      generalize F k = CL at *
      go_wp2_with fail
      refine wp_region_quiet_lit (by kernel_rfl) (by kernel_rfl) ?_
      repeat (first | (refine at_quiet (.load 72 (.tmp 18)) rfl ?_; refine wpQuiet_load_mid 72 _ rfl rfl g (k * 4) rfl CL _ hr1' Yba.underlying72 rfl hz ?_; simp only [Act.put, List.setIfInBounds_toArray, List.set_cons_zero, List.set_cons_succ]) | (refine at_quiet (.load 72 (.tmp 22)) rfl ?_; refine wpQuiet_load_mid 72 _ rfl rfl g' (k * 4) rfl CL _ hr2' Yba.underlying72 rfl hz ?_; simp only [Act.put, List.setIfInBounds_toArray, List.set_cons_zero, List.set_cons_succ]) | go_big_quiet_step (fail))
      refine wpQuiet_nil ?_
      intro _ hw'
      obtain ⟨nq, hw''⟩ := hw'
      subst hw''
      go_wp2_with fail
      go_roundw
      case rel => exact ⟨k + 1, by omega, by go_num, q + nq, by simp⟩
      case measure => simp [intOf]; omega
    · go_wp2_with fail
      go_ret
      exact ⟨rfl, below_drewN' (Below.refl _ _) _⟩

set_option maxRecDepth 100000 in
set_option maxHeartbeats 1000000 in
theorem equal13 (B1 B2 : Nat) (W : World) (a1 a2 : Option Addr) (n c1 c2 : Nat) (F : Nat → List Value) (h1 : Rs B1 66 10 W a1 n F) (h2 : Rs B2 66 10 W a2 n F)
    (hq : ∀ k, k < n → ∀ w, (Op.equalIn 10000 66 (.agg (F k).toArray) (.agg (F k).toArray)).run Yba.prog w = .ok true w) (hn : n ≤ 1048576) :
    Calls Yba.prog 13 #[.slice a1 n c1, .slice a2 n c2] W fun e W' => e = .returned (.bool true) ∧ Below W.heap.size W W' := by
  have HR1 := hide h1
  have HR2 := hide h2
  have HQ := hide hq
  clear h1 h2 hq
  go_enter Yba.func13, Yba.ntmps13
  go_wp2_with fail
  go_loopw [13] (fun i W' => ∃ k : Nat, k ≤ n ∧ i = .int .i64 k ∧ ∃ q, W' = W.drewN q) (fun i _ => n - (intOf i).toNat)
  case atStart => exact ⟨0, by omega, rfl, 0, rfl⟩
  case round =>
    obtain ⟨k, hk, rfl, q, rfl⟩ := hrel
    by_cases hlt : k < n
    · rcases HR1.out with ⟨_, h0⟩ | ⟨g, rfl, hr1⟩
      · omega
      rcases HR2.out with ⟨_, h0⟩ | ⟨g', rfl, hr2⟩
      · omega
      have hr1' := rangeAt_drewN (hr1.at_ k hlt) q
      have hr2' := rangeAt_drewN (hr2.at_ k hlt) q
      have hz : (Yba.prog.info? 66).map (·.size) = some (F k).length := by rw [hr1.len k hlt]; exact size66
      have heq := HQ.out k hlt
      clear hr1 hr2 HR1 HR2 HQ
      generalize F k = CL at *
      go_wp2_with fail
      refine wp_region_quiet_lit (by kernel_rfl) (by kernel_rfl) ?_
      repeat (first | (refine at_quiet (.load 66 (.tmp 18)) rfl ?_; refine wpQuiet_load_mid 66 _ rfl rfl g (k * 10) rfl CL _ hr1' Yba.underlying66 rfl hz ?_; simp only [Act.put, List.setIfInBounds_toArray, List.set_cons_zero, List.set_cons_succ]) | (refine at_quiet (.load 66 (.tmp 22)) rfl ?_; refine wpQuiet_load_mid 66 _ rfl rfl g' (k * 10) rfl CL _ hr2' Yba.underlying66 rfl hz ?_; simp only [Act.put, List.setIfInBounds_toArray, List.set_cons_zero, List.set_cons_succ]) | go_big_quiet_step (fail))
      refine wpQuiet_nil ?_
      intro _ hw'
      obtain ⟨nq, hw''⟩ := hw'
      subst hw''
      go_wp2_with fail
      go_roundw
      case rel => exact ⟨k + 1, by omega, by go_num, q + nq, by simp⟩
      case measure => simp [intOf]; omega
    · go_wp2_with fail
      go_ret
      exact ⟨rfl, below_drewN' (Below.refl _ _) _⟩

set_option maxRecDepth 100000 in
set_option maxHeartbeats 1000000 in
theorem equal14 (B1 B2 : Nat) (W : World) (a1 a2 : Option Addr) (n c1 c2 : Nat) (F : Nat → List Value) (h1 : Rs B1 60 9 W a1 n F) (h2 : Rs B2 60 9 W a2 n F)
    (hq : ∀ k, k < n → ∀ w, (Op.equalIn 10000 60 (.agg (F k).toArray) (.agg (F k).toArray)).run Yba.prog w = .ok true w) (hn : n ≤ 1048576) :
    Calls Yba.prog 14 #[.slice a1 n c1, .slice a2 n c2] W fun e W' => e = .returned (.bool true) ∧ Below W.heap.size W W' := by
  have HR1 := hide h1
  have HR2 := hide h2
  have HQ := hide hq
  clear h1 h2 hq
  go_enter Yba.func14, Yba.ntmps14
  go_wp2_with fail
  go_loopw [13] (fun i W' => ∃ k : Nat, k ≤ n ∧ i = .int .i64 k ∧ ∃ q, W' = W.drewN q) (fun i _ => n - (intOf i).toNat)
  case atStart => exact ⟨0, by omega, rfl, 0, rfl⟩
  case round =>
    obtain ⟨k, hk, rfl, q, rfl⟩ := hrel
    by_cases hlt : k < n
    · rcases HR1.out with ⟨_, h0⟩ | ⟨g, rfl, hr1⟩
      · omega
      rcases HR2.out with ⟨_, h0⟩ | ⟨g', rfl, hr2⟩
      · omega
      have hr1' := rangeAt_drewN (hr1.at_ k hlt) q
      have hr2' := rangeAt_drewN (hr2.at_ k hlt) q
      have hz : (Yba.prog.info? 60).map (·.size) = some (F k).length := by rw [hr1.len k hlt]; exact size60
      have heq := HQ.out k hlt
      clear hr1 hr2 HR1 HR2 HQ
      generalize F k = CL at *
      go_wp2_with fail
      refine wp_region_quiet_lit (by kernel_rfl) (by kernel_rfl) ?_
      repeat (first | (refine at_quiet (.load 60 (.tmp 18)) rfl ?_; refine wpQuiet_load_mid 60 _ rfl rfl g (k * 9) rfl CL _ hr1' Yba.underlying60 rfl hz ?_; simp only [Act.put, List.setIfInBounds_toArray, List.set_cons_zero, List.set_cons_succ]) | (refine at_quiet (.load 60 (.tmp 22)) rfl ?_; refine wpQuiet_load_mid 60 _ rfl rfl g' (k * 9) rfl CL _ hr2' Yba.underlying60 rfl hz ?_; simp only [Act.put, List.setIfInBounds_toArray, List.set_cons_zero, List.set_cons_succ]) | go_big_quiet_step (fail))
      refine wpQuiet_nil ?_
      intro _ hw'
      obtain ⟨nq, hw''⟩ := hw'
      subst hw''
      go_wp2_with fail
      go_roundw
      case rel => exact ⟨k + 1, by omega, by go_num, q + nq, by simp⟩
      case measure => simp [intOf]; omega
    · go_wp2_with fail
      go_ret
      exact ⟨rfl, below_drewN' (Below.refl _ _) _⟩
end Go.Proofs.Ybulkedlg
