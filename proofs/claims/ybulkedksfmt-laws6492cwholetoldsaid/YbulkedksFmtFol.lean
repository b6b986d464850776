import Derived.Test.YbulkedksFmtErr
import Derived.Stop.BytesEq
namespace Go.Proofs.YbulkedksFmt
open Go.RowKit Go.Extern.Stop Go.Stop Go.Extern
set_option linter.unusedVariables false

/-- A chunk's plain data. -/
structure Ck where
  off : Int
  len : Int
  hs : List UInt8

def Ck.cells (c : Ck) : List Value := .int .i64 c.off :: .int .i64 c.len :: c.hs.map cell

/-- Is the hash the zero hash? -/
def zeroB (hs : List UInt8) : Bool := hs == List.replicate 32 0

/-- May the chunk follow 'at' bytes? -/
def folB (c : Ck) (x : Int) : Bool := c.off == x && decide (1 ≤ c.len) && !zeroB c.hs

theorem Ybaf.size5 (w : World) : (sizeOf 5).run Ybaf.prog w = .ok 1 w := by kernel_rfl
theorem eql30 (hs : List UInt8) (hl : hs.length = 32) (w : World) : (Op.equalIn 10000 30 (.agg (hs.map cell).toArray) (.agg #[.int .u8 0, .int .u8 0, .int .u8 0, .int .u8 0, .int .u8 0, .int .u8 0, .int .u8 0, .int .u8 0, .int .u8 0, .int .u8 0, .int .u8 0, .int .u8 0, .int .u8 0, .int .u8 0, .int .u8 0, .int .u8 0, .int .u8 0, .int .u8 0, .int .u8 0, .int .u8 0, .int .u8 0, .int .u8 0, .int .u8 0, .int .u8 0, .int .u8 0, .int .u8 0, .int .u8 0, .int .u8 0, .int .u8 0, .int .u8 0, .int .u8 0, .int .u8 0])).run Ybaf.prog w = .ok (zeroB hs) w := by
  have e : (#[.int .u8 0, .int .u8 0, .int .u8 0, .int .u8 0, .int .u8 0, .int .u8 0, .int .u8 0, .int .u8 0, .int .u8 0, .int .u8 0, .int .u8 0, .int .u8 0, .int .u8 0, .int .u8 0, .int .u8 0, .int .u8 0, .int .u8 0, .int .u8 0, .int .u8 0, .int .u8 0, .int .u8 0, .int .u8 0, .int .u8 0, .int .u8 0, .int .u8 0, .int .u8 0, .int .u8 0, .int .u8 0, .int .u8 0, .int .u8 0, .int .u8 0, .int .u8 0] : Array Value) = ((List.replicate 32 (0 : UInt8)).map cell).toArray := by kernel_rfl
  rw [e, run_equalIn_bytes w 9998 30 5 32 Ybaf.underlying30 Ybaf.underlying5 Ybaf.size5 hs _ hl (by simp)]; rfl

set_option maxHeartbeats 400000 in
theorem New_any (s : ByteArray) (w : World) : Calls Ybaf.prog 13 #[.string s] w (Err56 w) := by
  go_enter Ybaf.func13, Ybaf.ntmps13
  go_wp2
  go_ret
  exact ⟨⟨w.heap.size, 0, none⟩, s, rfl, by simp, (Below.refl _ _).alloc (Nat.le_refl _) _⟩

theorem Ybaf.size30 : (Ybaf.prog.info? 30).map (·.size) = some 32 := by kernel_rfl

/-- What 'follows' leaves. -/
def FolPost (c : Ck) (x : Int) (w : World) : Ending → World → Prop := fun e w1 => (folB c x = true ∧ e = .returned .nilIface ∧ Below w.heap.size w w1) ∨ (folB c x = false ∧ Err56 w e w1)

theorem range_ck (c : Ck) (w : World) (t : TypeId) : (w.alloc (.cells c.cells.toArray t)).rangeAt w.heap.size 2 (c.hs.map cell) := by
  intro j v hj
  rw [cell_of_row _ _ _ _ _ _ (heap_alloc_new w _)]
  simp [Ck.cells]
  rw [show 2 + j = j + 1 + 1 by omega]
  simpa using hj

set_option maxRecDepth 100000 in
set_option maxHeartbeats 400000 in
theorem follows_any (c : Ck) (x : Int) (hl : c.hs.length = 32) (w : World) :
    Calls Ybaf.prog 11 #[.agg c.cells.toArray, .int .i64 x] w (FolPost c x w) := by
  have hr := range_ck c w 32
  have hsz : (Ybaf.prog.info? 30).map (·.size) = some (c.hs.map cell).length := by rw [Ybaf.size30, List.length_map, hl]
  have h0 : (w.alloc (.cells c.cells.toArray 32)).cell? ⟨w.heap.size, 0, none⟩ = some (.int .i64 c.off) := by simp [Ck.cells]
  have h1 : (w.alloc (.cells c.cells.toArray 32)).cell? ⟨w.heap.size, 1, none⟩ = some (.int .i64 c.len) := by simp [Ck.cells]
  have he := fun w => eql30 c.hs hl w
  have bel2 : ∀ (C : Array Value) (o : Obj) (w1 : World), Below ((w.alloc (.cells C 32)).alloc o).heap.size ((w.alloc (.cells C 32)).alloc o) w1 → Below w.heap.size w w1 := fun C o w1 h =>
    (((Below.refl _ _).alloc (Nat.le_refl _) _).alloc (by simp) _).trans (h.mono (by simp; omega))
  have bel1 : ∀ (C : Array Value) (w1 : World), Below (w.alloc (.cells C 32)).heap.size (w.alloc (.cells C 32)) w1 → Below w.heap.size w w1 := fun C w1 h =>
    ((Below.refl _ _).alloc (Nat.le_refl _) _).trans (h.mono (by simp))
  have B2 := hide bel2
  have B1 := hide bel1
  clear bel1 bel2
  by_cases e1 : c.off = x
  · have hne : (c.off != x) = false := by simpa using e1
    by_cases e2 : 1 ≤ c.len
    · cases e3 : zeroB c.hs
      · have HP : Hid (folB c x = true) := by show _ = _; simp [folB, e1, e2, e3]
        clear e1 B2
        rw [e3] at he
        clear e3
        have hbel : Hid (Below w.heap.size w (w.alloc (.cells c.cells.toArray 32))) := (Below.refl _ _).alloc (Nat.le_refl _) _
        generalize c.cells.toArray = C at *
        go_enter Ybaf.func11, Ybaf.ntmps11
        go_wp2_with (refine wpList_load_mid rfl 30 _ rfl w.heap.size 2 rfl _ _ hr Ybaf.underlying30 rfl hsz ?_)
        go_ret
        exact .inl ⟨HP.out, rfl, hbel.out⟩
      · have HP : Hid (folB c x = false) := by show _ = _; simp [folB, e3]
        clear e1 B2
        rw [e3] at he
        clear e3
        generalize c.cells.toArray = C at *
        go_enter Ybaf.func11, Ybaf.ntmps11
        go_wp2_with (first | (go_at_call 13; refine (New_any _ _).mono ?_; rintro e w1 ⟨a, s, rfl, hs, hb⟩) | refine wpList_load_mid rfl 30 _ rfl w.heap.size 2 rfl _ _ hr Ybaf.underlying30 rfl hsz ?_)
        go_ret
        exact .inr ⟨HP.out, a, s, rfl, hs, B1.out _ _ hb⟩
    · have HP : Hid (folB c x = false) := by show _ = _; simp [folB, e2]
      clear e1
      generalize c.cells.toArray = C at *
      go_enter Ybaf.func11, Ybaf.ntmps11
      go_wp2_with (go_at_call 9; refine (errf1 c.len (by simp)).mono ?_; rintro e w1 ⟨a, s, rfl, hs, hb⟩)
      go_ret
      exact .inr ⟨HP.out, a, s, rfl, hs, B2.out _ _ _ hb⟩
  · have hne : (c.off != x) = true := by simpa using e1
    have HP : Hid (folB c x = false) := by show _ = _; simp [folB, e1]
    clear e1
    generalize c.cells.toArray = C at *
    go_enter Ybaf.func11, Ybaf.ntmps11
    go_wp2_with (go_at_call 9; refine (errf0 c.off x (by simp) (by simp)).mono ?_; rintro e w1 ⟨a, s, rfl, hs, hb⟩)
    go_ret
    exact .inr ⟨HP.out, a, s, rfl, hs, B2.out _ _ _ hb⟩
end Go.Proofs.YbulkedksFmt
