import Derived.Test.YbulkednkLocks
import Derived.Maps.OwnSet
import Derived.StringKeys
import Derived.WalkKit
import Derived.WalkSpells
namespace Go.Proofs.Ybulkednk
open Go.RowKit Go.Maps
open Go.MuLone
set_option linter.unusedVariables false

/-- How an element of the map reads: is the pointer not nil? -/
def ptrElem (v : Value) : Option (DataW Nat × List MemPlace) :=
  match v with
  | .pointer p => some (.lit (.bool p.isSome), [])
  | _ => none

theorem ptrElem_inv {v : Value} {b : Bool} {ps : List MemPlace} (h : ptrElem v = some (.lit (.bool b), ps)) : ∃ p : Option Addr, v = .pointer p ∧ p.isSome = b := by
  unfold ptrElem at h
  split at h
  · simp at h
    exact ⟨_, rfl, h.1⟩
  · cases h

theorem law9 : Keyed Yba.prog 9 := string_keyed Yba.underlying9
theorem key9 (s : ByteArray) (h : s.size ≤ maxLen) : keyOf Yba.prog 9 (.string s) = some (.string s.data.toList) := WideMaps.keyOf_string_mk Yba.underlying9 h
theorem zero26 (w : World) : (zeroValue 26).run Yba.prog w = .ok (.pointer none) w := by kernel_rfl

set_option maxRecDepth 100000 in
set_option maxHeartbeats 1600000 in
theorem linked_any (T bm n : Nat) (D : DataW Nat) (s : ByteArray) (r : Bool) (w : World) (c0 : w.cell? ⟨T, 64, none⟩ = some (.int .i32 0)) (c2 : w.cell? ⟨T, 66, none⟩ = some (.map (some bm))) (f0 : w.frozen? ⟨T, 64, none⟩ = false)
    (hbs : bm ≠ T) (hown : w.ownsMap Yba.prog 9 ptrElem bm n D) (hs : s.size ≤ maxLen) (hr : D.atKey (.string s.data.toList) (.lit (.bool false)) = .lit (.bool r)) :
    Calls Yba.prog 6 #[.pointer (some ⟨T, 0, none⟩), .string s] w fun e w' => e = .returned (.bool r) ∧ w' = (w.setCell ⟨T, 64, none⟩ (.int .i32 1)).setCell ⟨T, 64, none⟩ (.int .i32 0) := by
  have hkey := key9 s hs
  have hown1 := hown.setCell (a := ⟨T, 64, none⟩) hbs (.int .i32 1)
  obtain ⟨v, ps, hrun, hv⟩ := hown1.lookup (t := 24) (e := 26) law9 Yba.underlying24 (zero26 _) (zd := .lit (.bool false)) (zp := []) rfl hkey
  rw [hr] at hv
  obtain ⟨p, rfl, rfl⟩ := ptrElem_inv hv
  have hne : ∀ (w : World), (binOp .neq 26 (.pointer p) (.pointer none)).run Yba.prog w = .ok (.bool p.isSome) w := by
    intro w
    cases p <;> kernel_rfl
  clear hv hown hown1 hr hkey
  go_enter_defers Yba.func6, Yba.ntmps6
  go_wp2_with (go_at_call 11; refine (lock_free muLib ⟨T, 64, none⟩ _ c0 f0).mono ?_; rintro e w' ⟨rfl, rfl⟩)
  refine leaves_cons (f := 9) (args := #[.pointer (some ⟨T, 64, none⟩)]) (by simp) (by simp [go_sem]) ?_
  refine (unlock_deferred muLib ⟨T, 64, none⟩ .returning _ ?_ ?_).mono ?_
  · exact World.cell?_setCell_same w ⟨T, 64, none⟩ (.int .i32 1) c0
  · simp [f0]
  rintro e u' w'' ⟨rfl, rfl, rfl⟩
  exact ⟨_, results_tmp rfl _ _ _, rfl, rfl⟩

set_option maxRecDepth 100000 in
set_option maxHeartbeats 1600000 in
theorem linked_nil (T : Nat) (s : ByteArray) (w : World) (c0 : w.cell? ⟨T, 64, none⟩ = some (.int .i32 0)) (c2 : w.cell? ⟨T, 66, none⟩ = some (.map none)) (f0 : w.frozen? ⟨T, 64, none⟩ = false) (hs : s.size ≤ maxLen) :
    Calls Yba.prog 6 #[.pointer (some ⟨T, 0, none⟩), .string s] w fun e w' => e = .returned (.bool false) ∧ w' = (w.setCell ⟨T, 64, none⟩ (.int .i32 1)).setCell ⟨T, 64, none⟩ (.int .i32 0) := by
  have hkey := key9 s hs
  have hrun := look_nil (w := w.setCell ⟨T, 64, none⟩ (.int .i32 1)) (t := 24) (e := 26) false law9 Yba.underlying24 (zero26 _) hkey
  have hne : ∀ (w : World), (binOp .neq 26 (.pointer none) (.pointer none)).run Yba.prog w = .ok (.bool false) w := fun w => by kernel_rfl
  go_enter_defers Yba.func6, Yba.ntmps6
  go_wp2_with (go_at_call 11; refine (lock_free muLib ⟨T, 64, none⟩ _ c0 f0).mono ?_; rintro e w' ⟨rfl, rfl⟩)
  refine leaves_cons (f := 9) (args := #[.pointer (some ⟨T, 64, none⟩)]) (by simp) (by simp [go_sem]) ?_
  refine (unlock_deferred muLib ⟨T, 64, none⟩ .returning _ ?_ ?_).mono ?_
  · exact World.cell?_setCell_same w ⟨T, 64, none⟩ (.int .i32 1) c0
  · simp [f0]
  rintro e u' w'' ⟨rfl, rfl, rfl⟩
  exact ⟨_, results_tmp rfl _ _ _, rfl, rfl⟩
end Go.Proofs.Ybulkednk
