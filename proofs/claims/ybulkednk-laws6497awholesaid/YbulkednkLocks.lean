import Derived.Test.YbulkednkRows
import Derived.Conc.RwLib
import Derived.Conc.MuData
import Derived.Conc.MuLone
import Derived.KernelRfl
namespace Go.Proofs.Ybulkednk
open Go.MuLone
/-- The numbers under which this dump holds the lock's functions and types. -/
abbrev muLink : Go.Conc.Locks.MuLink := { lock := 11, unlock := 9, ilock := 14, iunlock := 13, lockSlow := 22, unlockSlow := 21, disable := 15, enable := 16, acquire := 18, relMerge := 19, cas32 := 17, add32 := 20, tMutex := 52, tIMutex := 50, tPMutex := 146, tPIMutex := 147, tPI32 := 149, tUP := 126, tNoCopy := 44, tU32 := 46 }
theorem muLib : Go.Conc.Locks.MuLib Yba.prog muLink :=
  ⟨Yba.func11, Yba.func9, Yba.func14, Yba.func13, Yba.func15, Yba.func16, Yba.func18, Yba.func19, Yba.func17, Yba.func20, Yba.underlying50, Yba.runUnderlying50, Yba.sizeOf50, Yba.isAgg50, Yba.zeroValue50, Yba.underlying52, Yba.runUnderlying52, Yba.sizeOf52, Yba.isAgg52, Yba.zeroValue52, Yba.underlying146, Yba.runUnderlying146, Yba.sizeOf146, Yba.isAgg146, Yba.zeroValue146, Yba.underlying147, Yba.runUnderlying147, Yba.sizeOf147, Yba.isAgg147, Yba.zeroValue147, Yba.underlying149, Yba.runUnderlying149, Yba.sizeOf149, Yba.isAgg149, Yba.zeroValue149, Yba.underlying126, Yba.runUnderlying126, Yba.sizeOf126, Yba.isAgg126, Yba.zeroValue126, Yba.underlying44, Yba.runUnderlying44, Yba.sizeOf44, Yba.isAgg44, Yba.zeroValue44, Yba.underlying21, Yba.runUnderlying21, Yba.sizeOf21, Yba.isAgg21, Yba.zeroValue21, (by kernel_rfl)⟩

set_option maxRecDepth 100000 in
set_option maxHeartbeats 800000 in
/-- '(*internal/sync.Mutex).TryLock', free and nobody waiting. -/
theorem itry_free (a : Addr) (w : World) (hc : w.cell? a = some (.int .i32 0)) (hz : w.frozen? a = false) :
    Calls Yba.prog 12 #[.pointer (some a)] w fun e w' => e = .returned (.bool true) ∧ w' = w.setCell a (.int .i32 1) := by
  have hd := disable muLib
  have he := enable muLib
  have ha := acquire muLib
  have hcas := run_call_cas_hit (P := Yba.prog) muLib.f_cas32 (by kernel_rfl) (by kernel_rfl) (by kernel_rfl) .i32 (by kernel_rfl) (y := 1) hc hz
  have hc' : (w.setCell a (.int .i32 1)).cell? a = some (.int .i32 1) := by simp [go_sem, hc]
  have hcv := run_convert_to_unsafe (P := Yba.prog) (src := 147) (dst := 126) Yba.underlying147 Yba.underlying126 (by kernel_rfl) hc'
  simp only at hd he ha hcas
  have hn : ∀ (w : World) (b : Bool), Sem.run Yba.prog (Op.unary UnOp.not (Value.bool b)) w = Result.ok (Value.bool !b) w := fun _ _ => rfl
  have b1 : bits BinOp.and IntKind.i32 0 5 = 0 := by kernel_rfl
  have b2 : bits BinOp.or IntKind.i32 0 1 = 1 := by kernel_rfl
  go_enter Yba.func12, Yba.ntmps12
  go_wp2
  go_ret
  exact ⟨rfl, rfl⟩

set_option maxRecDepth 100000 in
set_option maxHeartbeats 800000 in
theorem try_free (a : Addr) (w : World) (hc : w.cell? a = some (.int .i32 0)) (hz : w.frozen? a = false) :
    Calls Yba.prog 8 #[.pointer (some a)] w fun e w' => e = .returned (.bool true) ∧ w' = w.setCell a (.int .i32 1) := by
  go_enter Yba.func8, Yba.ntmps8
  go_wp2_with fail
  refine (itry_free a _ hc hz).mono ?_
  rintro e w' ⟨rfl, rfl⟩
  go_wp2_with fail
  go_ret
  exact ⟨rfl, rfl⟩
end Go.Proofs.Ybulkednk
