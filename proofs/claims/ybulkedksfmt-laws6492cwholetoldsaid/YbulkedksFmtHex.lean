import Derived.Test.YbulkedksFmtSum
namespace Go.Proofs.YbulkedksFmt
open Go.RowKit
set_option linter.unusedVariables false

theorem Ybaf.info5 : (Ybaf.prog.info? 5).map (fun i => (i.zero, i.size, i.bytes)) = some (some (.int .u8 0), 1, 1) := by kernel_rfl
theorem Ybaf.info22 : (Ybaf.prog.info? 22).map (fun i => (i.size, i.bytes)) = some (32, 32) := by kernel_rfl

/-- The cells of a [32]byte. -/
def H32 (zs : List Int) : Array Value := (zs.map (Value.int .u8)).toArray


theorem cell_H32 (zs : List Int) (k : Nat) (hk : k < zs.length) (w : World) (g : Nat) (t : TypeId) (fr : Nat × Nat) (h : w.heap[g]? = some (.cells (H32 zs) t fr)) : w.cell? ⟨g, k, none⟩ = some (.int .u8 (zs.getD k 0)) := by
  rw [cell_of_row _ _ _ _ _ _ h]
  simp [H32, hk]

/-- The first n cells are bytes. -/
def Bytes (xs : List Value) : Prop := ∃ ns : List Int, xs = ns.map (Value.int .u8) ∧ ∀ n ∈ ns, 0 ≤ n ∧ n ≤ 255

theorem Bytes.set {xs : List Value} (h : Bytes xs) (j : Nat) (n : Int) (h0 : 0 ≤ n) (h1 : n ≤ 255) : Bytes (xs.set j (.int .u8 n)) := by
  obtain ⟨ns, rfl, hb⟩ := h
  refine ⟨ns.set j n, by rw [List.map_set], fun m hm => ?_⟩
  rcases List.mem_or_eq_of_mem_set hm with h | rfl
  · exact hb m h
  · exact ⟨h0, h1⟩

theorem Bytes.at {xs : List Value} (h : Bytes xs) (j : Nat) (hj : j < xs.length) : ∃ n : Int, xs[j]? = some (.int .u8 n) := by
  obtain ⟨ns, rfl, _⟩ := h
  simp at hj
  exact ⟨ns[j], by simp [hj]⟩

theorem hex_step {w wr : World} {ys : List Value} {o : Obj} (k : Nat) (a b : Int) (ha0 : 0 ≤ a) (ha1 : a ≤ 255) (hb0 : 0 ≤ b) (hb1 : b ≤ 255) (hby : Bytes ys)
    (hown : wr.ownsRow (w.heap.size + 1) 5 1 (.slice (some ⟨w.heap.size + 1, 0, none⟩) 64 64) 64 ys) (hbel : Below w.heap.size w wr) (hbox : wr.heap[w.heap.size]? = some o) :
    Bytes ((ys.set (2 * k) (.int .u8 a)).set (2 * k + 1) (.int .u8 b)) ∧
    ((wr.setCell ⟨w.heap.size + 1, 2 * k, none⟩ (.int .u8 a)).setCell ⟨w.heap.size + 1, 2 * k + 1, none⟩ (.int .u8 b)).ownsRow (w.heap.size + 1) 5 1 (.slice (some ⟨w.heap.size + 1, 0, none⟩) 64 64) 64 ((ys.set (2 * k) (.int .u8 a)).set (2 * k + 1) (.int .u8 b)) ∧
    Below w.heap.size w ((wr.setCell ⟨w.heap.size + 1, 2 * k, none⟩ (.int .u8 a)).setCell ⟨w.heap.size + 1, 2 * k + 1, none⟩ (.int .u8 b)) ∧
    ((wr.setCell ⟨w.heap.size + 1, 2 * k, none⟩ (.int .u8 a)).setCell ⟨w.heap.size + 1, 2 * k + 1, none⟩ (.int .u8 b)).heap[w.heap.size]? = some o := by
  refine ⟨(hby.set _ _ ha0 ha1).set _ _ hb0 hb1, ((hown.stored _ _).1.stored _ _).1, (hbel.setCell (by simp) _).setCell (by simp) _, ?_⟩
  rw [Below.heap_setCell _ _ _ _ (by simp), Below.heap_setCell _ _ _ _ (by simp)]; exact hbox

theorem byte_bd (c : UInt8) : (0 : Int) ≤ (c.toNat : Int) ∧ (c.toNat : Int) ≤ 255 := by
  have := c.toNat_lt; omega

set_option maxRecDepth 100000 in
set_option maxHeartbeats 400000 in
theorem hexof_any (zs : List Int) (w : World) (hz : zs.length = 32) (hb : ∀ i, 0 ≤ zs.getD i 0 ∧ zs.getD i 0 ≤ 255) :
    Calls Ybaf.prog 4 #[.agg (H32 zs)] w fun e w' => ∃ s : ByteArray, e = .returned (.string s) ∧ s.size = 64 ∧ Below w.heap.size w w' := by
  obtain ⟨i0, hi, hz0, hz1, hz2⟩ := info_parts Ybaf.info5
  go_enter Ybaf.func4, Ybaf.ntmps4
  go_wp2_with (at_make; refine wpList_make_full _ rfl _ _ _ rfl (w.heap.size + 1) 5 i0 (.int .u8 0) 1 Ybaf.underlying47 hi hz0 hz1 _ _ _ _ 64 rfl rfl (by rfl) (by rfl) (by rw [hz2]; decide) (by decide) (by simp) ?_)
  intro w1 hown hgrow
  have hby : Bytes (madeCells #[Value.int IntKind.u8 0] 64).toList := ⟨List.replicate 64 0, by rw [toList_madeCells_one]; simp, by simp⟩
  have hbel : Below w.heap.size w w1 := ((Below.refl _ _).alloc (Nat.le_refl _) _).grown hgrow (by simp) (by simp)
  have hbox : w1.heap[w.heap.size]? = some (.cells (H32 zs) 22 (0, 0)) := by
    rw [hgrow.block _ (by simp) (by simp)]; exact heap_alloc_new _ _
  generalize (madeCells #[Value.int IntKind.u8 0] 64).toList = xs at *
  clear hgrow
  go_wp2
  go_loopw [4] (fun i wr => ∃ (k : Nat) (xs : List Value), k ≤ 32 ∧ i = .int .i64 k ∧ Bytes xs ∧ wr.ownsRow (w.heap.size + 1) 5 1 (.slice (some ⟨w.heap.size + 1, 0, none⟩) 64 64) 64 xs ∧ Below w.heap.size w wr ∧ wr.heap[w.heap.size]? = some (.cells (H32 zs) 22 (0, 0))) (fun i _ => 32 - (intOf i).toNat)
  case atStart => exact ⟨0, xs, by omega, rfl, hby, hown, hbel, hbox⟩
  case round =>
    clear hby hown hbel hbox
    obtain ⟨k, ys, hk, rfl, hby, hown, hbel, hbox⟩ := hrel
    by_cases hlt : k < 32
    · have hl : ys.length = 64 := by simpa using hown.1
      have hc0 := cell_H32 zs k (by omega) wr _ _ _ hbox
      obtain ⟨m0, hm0⟩ := hby.at (2 * k) (by omega)
      have hf0 := hown.frozenAt (2 * k)
      have hf1 := hown.frozenAt (2 * k + 1)
      have hd0 : wr.cell? ⟨w.heap.size + 1, 2 * k, none⟩ = some (.int .u8 m0) := by rw [hown.cellAt _ (by omega)]; exact hm0
      obtain ⟨m1, hm1⟩ := hby.at (2 * k + 1) (by omega)
      have hd1 : wr.cell? ⟨w.heap.size + 1, 2 * k + 1, none⟩ = some (.int .u8 m1) := by rw [hown.cellAt _ (by omega)]; exact hm1
      obtain ⟨hb0, hb1⟩ := hb k
      clear hb hm0 hm1
      generalize zs.getD k 0 = z at hc0 hb0 hb1
      have HO := hide hown
      have HX := hide hbox
      clear hown hbox hl
      go_wp2
      go_roundw
      case rel =>
        exact ⟨k + 1, _, by omega, by go_num, hex_step k _ _ (byte_bd _).1 (byte_bd _).2 (byte_bd _).1 (byte_bd _).2 hby HO.out hbel HX.out⟩
      case measure => simp [intOf]; omega
    · have : k = 32 := by omega
      subst this
      obtain ⟨ns, hns, hnb⟩ := hby
      have hl : ys.length = 64 := by simpa using hown.1
      have hl' : ns.length = 64 := by rw [← hl, hns]; simp
      have hcv := run_convert_bytes_arg (P := Ybaf.prog) wr 47 5 Ybaf.underlying47 Ybaf.underlying5 (w.heap.size + 1) 0 64 64 ns hl' (fun i hi => by
        rw [Nat.zero_add, hown.cellAt _ (by omega), hns]; simp [hl', hi]) 9 Ybaf.underlying9
      have hsz : (strOfNums ns).size = 64 := by rw [strOfNums_size, hl']
      have HZ := hide hsz
      clear hown hbox hns hl hl' hnb hsz
      go_wp2
      go_ret
      exact ⟨_, rfl, HZ.out, hbel⟩
end Go.Proofs.YbulkedksFmt
