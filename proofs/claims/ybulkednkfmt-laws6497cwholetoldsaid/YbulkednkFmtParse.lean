import Derived.Test.YbulkednkFmtPs
import Derived.Laws.ResultCell
namespace Go.Proofs.YbulkednkFmt
open Go.RowKit Go.Maps
set_option linter.unusedVariables false

/-- What parseSearch is told of its map. -/
def Gets (w : World) (mb : Nat) (T : Nat → ByteArray) : Prop := ∀ i, i < 8 → GetIs w mb (nm i) (T i) ∧ (T i).size ≤ 1048576
theorem Gets.later {w w' : World} {mb : Nat} {T : Nat → ByteArray} (h : Gets w mb T) (hb : Below w.heap.size w w') : Gets w' mb T := fun i hi => ⟨(h i hi).1.later hb, (h i hi).2⟩

def PsPost (w : World) (T : Nat → ByteArray) : Ending → World → Prop := fun e w' => ∃ ev, e = .returned (.tuple #[.agg (fRun T 3).1, ev]) ∧ ((ev = .nilIface ∧ (fRun T 3).2 = false) ∨ ((∃ p, ev = .iface 76 p) ∧ (fRun T 3).2 = true)) ∧ Below w.heap.size w w'

theorem nmsz : ∀ i, (nm i).size ≤ maxLen := fun i => by
  by_cases hi : i < 8
  · have : ∀ i : Fin 8, (nm i.val).size ≤ 11 := by decide
    have := this ⟨i, hi⟩
    exact Nat.le_trans this (by decide)
  · unfold nm
    rw [List.getD_eq_getElem?_getD, List.getElem?_eq_none (by show 8 ≤ i; omega)]; decide

theorem cStep_yes {A : Array Value} {o : Nat} {t : ByteArray} {v : Int} (h : ¬ t = ByteArray.empty) (ha : Lib.atoiAll t.data.toList = .ok v) (hv : 1 ≤ v) : cStep A o t = (A.setIfInBounds o (.int .i64 v), false) := by
  have e : numOf t.data.toList = some v.toNat := by rw [numOf_eq, ha, okNat, if_pos (by omega)]
  rw [cStep, if_neg h, e]
  show (if 1 ≤ v.toNat then _ else _) = _
  rw [if_pos (by omega), show ((v.toNat : Nat) : Int) = v by omega]
theorem cStep_small {A : Array Value} {o : Nat} {t : ByteArray} {v : Int} (h : ¬ t = ByteArray.empty) (ha : Lib.atoiAll t.data.toList = .ok v) (hv : v < 1) : cStep A o t = (A, true) := by
  by_cases h0 : 0 ≤ v
  · have e : numOf t.data.toList = some v.toNat := by rw [numOf_eq, ha, okNat, if_pos h0]
    rw [cStep, if_neg h, e]
    show (if 1 ≤ v.toNat then _ else _) = _
    rw [if_neg (by omega)]
  · have e : numOf t.data.toList = none := by rw [numOf_eq, ha, okNat, if_neg h0]
    rw [cStep, if_neg h, e]
theorem cStep_no {A : Array Value} {o : Nat} {t : ByteArray} (h : ¬ t = ByteArray.empty) (ha : okNat (Lib.atoiAll t.data.toList) = none) : cStep A o t = (A, true) := by
  rw [cStep, if_neg h, numOf_eq, ha]

theorem nStep_yes {A : Array Value} {t : ByteArray} {v : Int} (h : ¬ t = ByteArray.empty) (ha : Lib.atoiAll t.data.toList = .ok v) (hv : 0 ≤ v) : nStep A t = ((A.setIfInBounds 6 (.int .i64 v)).setIfInBounds 7 (.bool true), false) := by
  have e : numOf t.data.toList = some v.toNat := by rw [numOf_eq, ha, okNat, if_pos (by omega)]
  rw [nStep, if_neg h, e]
  show ((A.setIfInBounds 6 (.int .i64 (v.toNat : Int))).setIfInBounds 7 (.bool true), false) = _
  rw [show ((v.toNat : Nat) : Int) = v by omega]
theorem nStep_small {A : Array Value} {t : ByteArray} {v : Int} (h : ¬ t = ByteArray.empty) (ha : Lib.atoiAll t.data.toList = .ok v) (hv : v < 0) : nStep A t = (A, true) := by
  have e : numOf t.data.toList = none := by rw [numOf_eq, ha, okNat, if_neg (by omega)]
  rw [nStep, if_neg h, e]
theorem nStep_no {A : Array Value} {t : ByteArray} (h : ¬ t = ByteArray.empty) (ha : okNat (Lib.atoiAll t.data.toList) = none) : nStep A t = (A, true) := by
  rw [nStep, if_neg h, numOf_eq, ha]
theorem bStep_yes {A : Array Value} {o : Nat} {t : ByteArray} {b : Bool} (h : ¬ t = ByteArray.empty) (ha : Lib.parseBool t.data.toList = some b) : bStep A o t = (A.setIfInBounds o (.bool b), false) := by
  rw [bStep, if_neg h, ha]
theorem bStep_no {A : Array Value} {o : Nat} {t : ByteArray} (h : ¬ t = ByteArray.empty) (ha : Lib.parseBool t.data.toList = none) : bStep A o t = (A, true) := by
  rw [bStep, if_neg h, ha]

/-- parseSearch under way. -/
structure Ps (w W : World) (cb fb : Nat) (A : Array Value) : Prop where
  bel : Below w.heap.size w W
  row : W.heap[w.heap.size + 1]? = some (.cells A 32 (0, 0))
  res : W.heap[w.heap.size]? = some (.cells (A0 ByteArray.empty) 32 (0, 0))
  sp : Sp W (w.heap.size + 1) cb fb
  hc : w.heap.size + 2 ≤ cb
  hf : w.heap.size + 2 ≤ fb

theorem Sp.of_blocks {W W' : World} {sb cb fb : Nat} (h : Sp W sb cb fb) (hc : W'.heap[cb]? = W.heap[cb]?) (hf : W'.heap[fb]? = W.heap[fb]?) : Sp W' sb cb fb :=
  ⟨fun j hj => by rw [World.cell?_of_block (w := W) hc]; exact h.c0 j hj, fun j hj => by rw [World.cell?_of_block (w := W) hc]; exact h.c1 j hj, fun j hj => by rw [World.cell?_of_block (w := W) hf]; exact h.f0 j hj, fun j hj => by rw [World.cell?_of_block (w := W) hf]; exact h.f1 j hj⟩
theorem Sp.lt {W : World} {sb cb fb : Nat} (h : Sp W sb cb fb) : cb < W.heap.size ∧ fb < W.heap.size := ⟨World.block_lt_of_cell? _ _ (h.c0 0 (by omega)), World.block_lt_of_cell? _ _ (h.f0 0 (by omega))⟩

theorem Ps.later {w W W' : World} {cb fb : Nat} {A : Array Value} (h : Ps w W cb fb A) (hb : Below W.heap.size W W') : Ps w W' cb fb A :=
  ⟨h.bel.trans (hb.mono h.bel.size), by rw [hb.block _ (Array.getElem?_eq_some_iff.1 h.row).1]; exact h.row, by rw [hb.block _ (Array.getElem?_eq_some_iff.1 h.res).1]; exact h.res, h.sp.of_blocks (hb.block _ h.sp.lt.1) (hb.block _ h.sp.lt.2), h.hc, h.hf⟩
theorem Ps.set {w W : World} {cb fb : Nat} {A : Array Value} (h : Ps w W cb fb A) (o : Nat) (v : Value) : Ps w (W.setCell ⟨w.heap.size + 1, o, none⟩ v) cb fb (A.setIfInBounds o v) := by
  have h1 := h.hc
  have h2 := h.hf
  refine ⟨h.bel.setCell (p := ⟨w.heap.size + 1, o, none⟩) (by simp) v, heap_setCell_same W _ o _ _ _ h.row, ?_, h.sp.of_blocks (Below.heap_setCell _ _ _ _ (by simp; omega)) (Below.heap_setCell _ _ _ _ (by simp; omega)), h1, h2⟩
  rw [Below.heap_setCell _ _ _ _ (by simp)]; exact h.res
theorem Ps.cell {w W : World} {cb fb : Nat} {A : Array Value} (h : Ps w W cb fb A) (o : Nat) : W.cell? ⟨w.heap.size + 1, o, none⟩ = A[o]? := cell_of_row _ _ _ _ _ _ h.row

theorem cell_nw (W : World) (g : Nat) (C : Array Value) (t : TypeId) (i : Nat) (v : Value) (hg : g = W.heap.size) (h : C[i]? = some v) : (W.alloc (.cells C t)).cell? ⟨g, i, none⟩ = some v := by
  rw [World.cell?_alloc_at (w := W) C t g i hg]; exact h
theorem errf0n {W : World} {T : TypeId} {cap g : Nat} {x0 x1 : ByteArray} (hg : g = W.heap.size) : Calls Ybaf.prog 14 #[.string ⟨#[37, 115, 32, 37, 113, 58, 32, 119, 97, 110, 116, 32, 97, 32, 119, 104, 111, 108, 101, 32, 110, 117, 109, 98, 101, 114, 32, 111, 102, 32, 97, 116, 32, 108, 101, 97, 115, 116, 32, 49]⟩, .slice (some ⟨g, 0, none⟩) 2 cap] (W.alloc (.cells #[.iface 9 (.string x0), .iface 9 (.string x1)] T)).drew (ErrPost (W.alloc (.cells #[.iface 9 (.string x0), .iface 9 (.string x1)] T)).drew) :=
  errf0 x0 x1 (cell_nw _ _ _ _ _ _ hg rfl) (cell_nw _ _ _ _ _ _ hg rfl)
theorem errf2n {W : World} {T : TypeId} {cap g : Nat} {x0 x1 : ByteArray} (hg : g = W.heap.size) : Calls Ybaf.prog 14 #[.string ⟨#[37, 115, 32, 37, 113, 58, 32, 119, 97, 110, 116, 32, 49, 32, 111, 114, 32, 48]⟩, .slice (some ⟨g, 0, none⟩) 2 cap] (W.alloc (.cells #[.iface 9 (.string x0), .iface 9 (.string x1)] T)).drew (ErrPost (W.alloc (.cells #[.iface 9 (.string x0), .iface 9 (.string x1)] T)).drew) :=
  errf2 x0 x1 (cell_nw _ _ _ _ _ _ hg rfl) (cell_nw _ _ _ _ _ _ hg rfl)
theorem errf1n {W : World} {T : TypeId} {cap g : Nat} {x0 : ByteArray} (hg : g = W.heap.size) : Calls Ybaf.prog 14 #[.string ⟨#[110, 117, 109, 98, 101, 114, 32, 37, 113, 58, 32, 119, 97, 110, 116, 32, 97, 32, 119, 104, 111, 108, 101, 32, 110, 117, 109, 98, 101, 114, 32, 111, 102, 32, 97, 116, 32, 108, 101, 97, 115, 116, 32, 48]⟩, .slice (some ⟨g, 0, none⟩) 1 cap] (W.alloc (.cells #[.iface 9 (.string x0)] T)).drew (ErrPost (W.alloc (.cells #[.iface 9 (.string x0)] T)).drew) :=
  errf1 x0 (cell_nw _ _ _ _ _ _ hg rfl)
theorem keep_cell {w : World} {o : Obj} {w1 : World} {p : Addr} {v : Value} (hb : Below (w.alloc o).drew.heap.size (w.alloc o).drew w1) (h : w.cell? p = some v) : w1.cell? p = some v := by
  have hp := World.block_lt_of_cell? _ _ h
  rw [hb.cell (show p.block < (w.alloc o).heap.size by simp; omega)]
  have : (w.alloc o).cell? p = w.cell? p := World.cell?_alloc_lt _ _ _ hp
  exact this.trans h
theorem keep_range {w : World} {o : Obj} {w1 : World} {b i : Nat} {cs : List Value} (hb : Below (w.alloc o).drew.heap.size (w.alloc o).drew w1) (h : w.rangeAt b i cs) : w1.rangeAt b i cs := fun j v hj => keep_cell hb (h j v hj)
theorem keep_there {w : World} {o : Obj} {w1 : World} {b i n : Nat} (hb : Below (w.alloc o).drew.heap.size (w.alloc o).drew w1) (h : w.there b i n) : w1.there b i n := fun j hj => by
  obtain ⟨h1, h2⟩ := h j hj
  obtain ⟨v, hv⟩ := Option.isSome_iff_exists.1 h1
  have hp := World.block_lt_of_cell? _ _ hv
  have e : w1.heap[b]? = w.heap[b]? := by
    rw [hb.block b (show b < (w.alloc o).heap.size by simp; exact Nat.lt_succ_of_lt hp)]
    exact Below.heap_alloc _ _ _ hp
  refine ⟨by rw [keep_cell hb hv]; rfl, ?_⟩
  rw [World.frozen?_of_block (w := w) e]; exact h2
theorem keep_row {w : World} {o : Obj} {w1 : World} {b : Nat} {ob : Obj} (hb : Below (w.alloc o).drew.heap.size (w.alloc o).drew w1) (h : w.heap[b]? = some ob) : w1.heap[b]? = some ob := by
  have hp := (Array.getElem?_eq_some_iff.1 h).1
  rw [hb.block b (show b < (w.alloc o).heap.size by simp; exact Nat.lt_succ_of_lt hp)]
  exact (Below.heap_alloc w o _ hp).trans h
section
variable {w : World} {b : Nat}
theorem row0 (h : w.heap[b]? = some (.cells (A0 ByteArray.empty) 32 (0, 0))) : w.cell? ⟨b, 0, none⟩ = some (.string ByteArray.empty) := by rw [cell_of_row _ _ _ _ _ _ h]; rfl
theorem row1 (h : w.heap[b]? = some (.cells (A0 ByteArray.empty) 32 (0, 0))) : w.cell? ⟨b, 1, none⟩ = some (.bool false) := by rw [cell_of_row _ _ _ _ _ _ h]; rfl
theorem row2 (h : w.heap[b]? = some (.cells (A0 ByteArray.empty) 32 (0, 0))) : w.cell? ⟨b, 2, none⟩ = some (.bool false) := by rw [cell_of_row _ _ _ _ _ _ h]; rfl
theorem row3 (h : w.heap[b]? = some (.cells (A0 ByteArray.empty) 32 (0, 0))) : w.cell? ⟨b, 3, none⟩ = some (.int .i64 0) := by rw [cell_of_row _ _ _ _ _ _ h]; rfl
theorem row4 (h : w.heap[b]? = some (.cells (A0 ByteArray.empty) 32 (0, 0))) : w.cell? ⟨b, 4, none⟩ = some (.int .i64 0) := by rw [cell_of_row _ _ _ _ _ _ h]; rfl
theorem row5 (h : w.heap[b]? = some (.cells (A0 ByteArray.empty) 32 (0, 0))) : w.cell? ⟨b, 5, none⟩ = some (.int .i64 0) := by rw [cell_of_row _ _ _ _ _ _ h]; rfl
theorem row6 (h : w.heap[b]? = some (.cells (A0 ByteArray.empty) 32 (0, 0))) : w.cell? ⟨b, 6, none⟩ = some (.int .i64 0) := by rw [cell_of_row _ _ _ _ _ _ h]; rfl
theorem row7 (h : w.heap[b]? = some (.cells (A0 ByteArray.empty) 32 (0, 0))) : w.cell? ⟨b, 7, none⟩ = some (.bool false) := by rw [cell_of_row _ _ _ _ _ _ h]; rfl
theorem row8 (h : w.heap[b]? = some (.cells (A0 ByteArray.empty) 32 (0, 0))) : w.cell? ⟨b, 8, none⟩ = some (.bool false) := by rw [cell_of_row _ _ _ _ _ _ h]; rfl
theorem row_free (h : w.heap[b]? = some (.cells (A0 ByteArray.empty) 32 (0, 0))) : ∀ i, w.frozen? ⟨b, i, none⟩ = false := fun i => frozen_of_row w _ _ _ _ h
end
theorem s32 : (Ybaf.prog.info? 32).map (·.size) = some 9 := by kernel_rfl
theorem load32 {A : Array Value} (hA : Wf A) (b : Nat) (w : World) (h : w.rangeAt b 0 A.toList) : (Instr.loadAt 32 (.pointer (some ⟨b, 0, none⟩))).run Ybaf.prog w = .ok (.agg A) w := by
  have := run_loadAt_mid w b 0 32 A.toList _ h Ybaf.underlying32 rfl (by rw [Array.length_toList, hA.size]; exact s32)
  rwa [Array.toArray_toList] at this
theorem store32 {A : Array Value} (hA : Wf A) (b : Nat) (w : World) (h : w.there b 0 9) : (Instr.storeAt 32 (.pointer (some ⟨b, 0, none⟩)) (.agg A)).run Ybaf.prog w = .ok () (w.setCells b 0 A.toList) :=
  run_storeAt_mid w b 0 32 A (by rw [hA.size]; exact h) (by rw [hA.size]; exact s32) hA.one
theorem Ps.range {w W : World} {cb fb : Nat} {A : Array Value} (h : Ps w W cb fb A) : W.rangeAt (w.heap.size + 1) 0 A.toList := fun j u hu => by
  rw [Nat.zero_add, cell_of_row _ _ _ _ _ _ h.row]; simpa using hu
theorem Ps.there {w W : World} {cb fb : Nat} {A : Array Value} (h : Ps w W cb fb A) : W.there w.heap.size 0 9 := fun j hj => by
  refine ⟨?_, frozen_of_row W _ _ _ _ h.res⟩
  rw [Nat.zero_add, cell_of_row _ _ _ _ _ _ h.res, Array.getElem?_eq_getElem (by show j < 9; omega)]; rfl

abbrev set9 (W : World) (b : Nat) (v0 v1 v2 v3 v4 v5 v6 v7 v8 : Value) : World := ((((((((W.setCell ⟨b, 0, none⟩ v0).setCell ⟨b, 1, none⟩ v1).setCell ⟨b, 2, none⟩ v2).setCell ⟨b, 3, none⟩ v3).setCell ⟨b, 4, none⟩ v4).setCell ⟨b, 5, none⟩ v5).setCell ⟨b, 6, none⟩ v6).setCell ⟨b, 7, none⟩ v7).setCell ⟨b, 8, none⟩ v8
theorem set9_row {W : World} {b : Nat} (h : W.heap[b]? = some (.cells (A0 ByteArray.empty) 32 (0, 0))) (v0 v1 v2 v3 v4 v5 v6 v7 v8 : Value) : (set9 W b v0 v1 v2 v3 v4 v5 v6 v7 v8).heap[b]? = some (.cells #[v0, v1, v2, v3, v4, v5, v6, v7, v8] 32 (0, 0)) := by
  have h0 := heap_setCell_same W b 0 _ _ v0 h
  have h1 := heap_setCell_same _ b 1 _ _ v1 h0
  have h2 := heap_setCell_same _ b 2 _ _ v2 h1
  have h3 := heap_setCell_same _ b 3 _ _ v3 h2
  have h4 := heap_setCell_same _ b 4 _ _ v4 h3
  have h5 := heap_setCell_same _ b 5 _ _ v5 h4
  have h6 := heap_setCell_same _ b 6 _ _ v6 h5
  have h7 := heap_setCell_same _ b 7 _ _ v7 h6
  have h8 := heap_setCell_same _ b 8 _ _ v8 h7
  simp only [A0, List.setIfInBounds_toArray, List.set_cons_zero, List.set_cons_succ] at h8
  exact h8
theorem set9_below {w W : World} {B b : Nat} (h : Below B w W) (hb : B ≤ b) (v0 v1 v2 v3 v4 v5 v6 v7 v8 : Value) : Below B w (set9 W b v0 v1 v2 v3 v4 v5 v6 v7 v8) :=
  ((((((((h.setCell (p := ⟨b, 0, none⟩) hb v0).setCell (p := ⟨b, 1, none⟩) hb v1).setCell (p := ⟨b, 2, none⟩) hb v2).setCell (p := ⟨b, 3, none⟩) hb v3).setCell (p := ⟨b, 4, none⟩) hb v4).setCell (p := ⟨b, 5, none⟩) hb v5).setCell (p := ⟨b, 6, none⟩) hb v6).setCell (p := ⟨b, 7, none⟩) hb v7).setCell (p := ⟨b, 8, none⟩) hb v8

theorem ps_ret {w W : World} {rb : Nat} {T : Nat → ByteArray} {tmps : Array Value} {A : Array Value} {b : Bool} {ev : Value} (h2 : tmps.getD 2 undef = .pointer (some ⟨rb, 0, none⟩)) (h3 : tmps.getD 3 undef = ev) (hrow : W.heap[rb]? = some (.cells A 32 (0, 0))) (hA : A.size = 9)
    (hf : fRun T 3 = (A, b)) (hev : (ev = .nilIface ∧ b = false) ∨ ((∃ p, ev = .iface 76 p) ∧ b = true)) (hb : Below w.heap.size w W) : bodyPost Ybaf.prog Ybaf.f5 (PsPost w T) .ret ⟨tmps, []⟩ W := by
  refine bodyPost_ret_by (v := .tuple #[.agg A, ev]) ?_ rfl ⟨ev, by rw [hf], by rw [hf]; exact hev, hb⟩
  rw [results_cell_tmp Ybaf.results5, h2, h3]
  have hl := run_loadVar_row (P := Ybaf.prog) W rb 32 32 A (0, 0) _ hrow Ybaf.underlying32 rfl (by rw [hA]; exact s32)
  simp [asAddr, hl]

set_option maxRecDepth 100000 in
set_option maxHeartbeats 4000000 in
theorem parse_any (mb : Nat) (T : Nat → ByteArray) (w : World) (hG : Gets w mb T) (hL : LaidOk w) :
    Calls Ybaf.prog 5 #[.map (some mb)] w (PsPost w T) := by
  have HG := hide hG
  have HL := hide hL
  clear hG hL
  go_enter Ybaf.func5, Ybaf.ntmps5
  go_wp2_with fail
  have hb1 := (Below.refl w.heap.size w).alloc (Nat.le_refl _) (Obj.cells (A0 ByteArray.empty) 32)
  have g0 : GetIs (w.alloc (Obj.cells (A0 ByteArray.empty) 32)) mb ⟨#[113]⟩ (T 0) := (HG.out.later hb1 0 (by omega)).1
  refine (get_any mb ⟨#[113]⟩ (T 0) _ (by decide) g0).mono ?_
  rintro e w' ⟨rfl, hw'⟩
  obtain rfl := hw'.symm
  have hrow : (w.alloc (Obj.cells (A0 ByteArray.empty) 32)).heap[w.heap.size]? = some (.cells (A0 ByteArray.empty) 32 (0, 0)) := heap_alloc_new w _
  have hsz : (w.alloc (Obj.cells (A0 ByteArray.empty) 32)).heap.size = w.heap.size + 1 := by simp
  have HB1 := hide hb1
  have HR1 := hide hrow
  clear hb1 g0 hrow
  go_wp2_with fail
  refine (sp_any (w.heap.size + 1) _).mono ?_
  rintro e W2 ⟨cb, fb, rfl, hcb, hfb, hsp, hb2⟩
  have HP : Hid (Ps w W2 cb fb (cRun T 0).1) := by
    have hr2 := heap_alloc_new (w.alloc (Obj.cells (A0 ByteArray.empty) 32)) (.cells (A0 (T 0)) 32)
    have hs2 : ((w.alloc (Obj.cells (A0 ByteArray.empty) 32)).alloc (.cells (A0 (T 0)) 32)).heap.size = w.heap.size + 2 := by simp
    refine ⟨(HB1.out.alloc (by simp) _).trans (hb2.mono (by simp; omega)), ?_, ?_, hsp, by simpa using hcb, by simpa using hfb⟩
    · rw [hsz] at hr2
      rw [hb2.block _ (show w.heap.size + 1 < _ by simp)]; exact hr2
    · rw [hb2.block _ (show w.heap.size < _ by simp; omega), Below.heap_alloc _ _ _ (by simp)]; exact HR1.out
  clear hsp hb2 HB1 HR1 hsz hcb hfb
  go_upto_block 0 with fail
  go_cut [29] (fun s W => (cRun T 3).2 = false ∧ Ps w W cb fb (cRun T 3).1)
  case first =>
    all_goals
      go_wp2_with fail
      go_loopw [29] (fun s W => ∃ j : Nat, j ≤ 3 ∧ s = .int .i64 j ∧ (cRun T j).2 = false ∧ Ps w W cb fb (cRun T j).1) (fun s _ => 3 - (intOf s).toNat)
      case atStart => exact ⟨0, by omega, rfl, rfl, HP.out⟩
      case round =>
        clear HP
        obtain ⟨j, hj, rfl, hnf, hP⟩ := hrel
        by_cases hlt : j < 3
        · have k0 := hP.sp.c0 j hlt
          have k1 := hP.sp.c1 j hlt
          have hG := HG.out.later hP.bel
          obtain ⟨hg, hts⟩ := hG (j + 1) (by omega)
          have hnm : nm (j + 1) = cn j := by
            match j, hlt with
            | 0, _ => rfl
            | 1, _ => rfl
            | 2, _ => rfl
          rw [hnm] at hg
          have hstep : cRun T (j + 1) = cStep (cRun T j).1 (co j) (T (j + 1)) := by rw [cRun, hnf]; rfl
          obtain ⟨t, ht⟩ : ∃ t, T (j + 1) = t := ⟨_, rfl⟩
          rw [ht] at hg hts hstep
          have hls := HL.out.later hP.bel
          have HPj := hide hP
          have HGj := hide hg
          have HST := hide hstep
          have HLs := hide hls
          have hcs : (cn j).size ≤ maxLen := by rw [← hnm]; exact nmsz _
          clear hP hg hstep ht hG hls hnm
          go_wp2_with fail
          have hba := (Below.refl wr.heap.size wr).alloc (Nat.le_refl _) (Obj.cells #[.string (cn j), .pointer (some ⟨w.heap.size + 1, co j, none⟩)] 55)
          have hnew := heap_alloc_new wr (Obj.cells #[.string (cn j), .pointer (some ⟨w.heap.size + 1, co j, none⟩)] 55)
          refine (get_any mb (cn j) t _ hcs (HGj.out.later hba)).mono ?_
          rintro e w' ⟨rfl, hw'⟩
          obtain rfl := hw'.symm
          have HPa := hide (HPj.out.later hba)
          have HLa := hide (HLs.out.later hba)
          obtain ⟨pk, hpk⟩ : ∃ pk, wr.heap.size = pk := ⟨_, rfl⟩
          rw [hpk] at hnew ⊢
          have hpl : w.heap.size + 2 ≤ pk := by have := HPj.out.sp.lt.1; have := HPj.out.hc; omega
          clear hba hpk HPj HGj HLs k0 k1
          generalize wr.alloc (Obj.cells #[.string (cn j), .pointer (some ⟨w.heap.size + 1, co j, none⟩)] 55) = Wp at *
          have k0 : Wp.cell? ⟨pk, 0, none⟩ = some (.string (cn j)) := by rw [cell_of_row _ _ _ _ _ _ hnew]; rfl
          have k1 : Wp.cell? ⟨pk, 1, none⟩ = some (.pointer (some ⟨w.heap.size + 1, co j, none⟩)) := by rw [cell_of_row _ _ _ _ _ _ hnew]; rfl
          clear hnew
          by_cases hte : t = ByteArray.empty
          · have h1 : cRun T (j + 1) = ((cRun T j).1, false) := by rw [HST.out, cStep, if_pos hte]
            have H1 := hide h1
            clear h1
            subst hte
            go_wp2_with fail
            go_roundw
            case rel => exact ⟨j + 1, by omega, by go_num, by rw [H1.out], by rw [H1.out]; exact HPa.out⟩
            case measure => simp [intOf]; omega
          · have htq : (t.toList == []) = false := by rw [Lib.toList_data]; exact beq_eq_false_iff_ne.2 fun e => hte (bytes_eq (l := #[]).2 e)
            have HTE := hide hte
            clear hte
            go_wp2_with fail
            refine (atoi_any t (by omega) _ HLa.out).mono ?_
            rintro e W3 ⟨v, ev, rfl, hb3, hcase⟩
            have HP3 := hide (HPa.out.later hb3)
            have k03 : W3.cell? ⟨pk, 0, none⟩ = some (.string (cn j)) := by rw [hb3.cell (World.block_lt_of_cell? _ _ k0)]; exact k0
            have k13 : W3.cell? ⟨pk, 1, none⟩ = some (.pointer (some ⟨w.heap.size + 1, co j, none⟩)) := by rw [hb3.cell (World.block_lt_of_cell? _ _ k1)]; exact k1
            clear hb3 k0 k1 HPa HLa
            rcases hcase with ⟨rfl, hat, hv0, hv1⟩ | ⟨⟨te, pe, rfl⟩, hat⟩
            · by_cases hv : 1 ≤ v
              · have H1 := hide (HST.out.trans (cStep_yes HTE.out hat hv))
                have hwf := (wf_cRun T j hj).size
                obtain ⟨u, hu⟩ : ∃ u, (cRun T j).1[co j]? = some u := ⟨_, Array.getElem?_eq_getElem (by rw [hwf]; unfold co; omega)⟩
                have hcell : W3.cell? ⟨w.heap.size + 1, co j, none⟩ = some u := by rw [HP3.out.cell]; exact hu
                have hfr : W3.frozen? ⟨w.heap.size + 1, co j, none⟩ = false := frozen_of_row W3 _ _ _ _ HP3.out.row
                clear hat hwf hu
                go_wp2_with fail
                go_roundw
                case rel => exact ⟨j + 1, by omega, by go_num, by rw [H1.out], by rw [H1.out]; exact HP3.out.set _ _⟩
                case measure => simp [intOf]; omega
              · have H1 := hide (HST.out.trans (cStep_small HTE.out hat (by omega)))
                obtain ⟨q, b1, b2, i3, i4, i5, i6, b7, b8, hA⟩ := wf_cRun T j hj
                rw [hA] at HP3 H1
                have HFP := hide (fail_cf T (i := j + 1) (by omega) (by rw [H1.out]))
                rw [H1.out] at HFP
                have d0 := HP3.out.cell 0
                have d1 := HP3.out.cell 1
                have d2 := HP3.out.cell 2
                have d3 := HP3.out.cell 3
                have d4 := HP3.out.cell 4
                have d5 := HP3.out.cell 5
                have d6 := HP3.out.cell 6
                have d7 := HP3.out.cell 7
                have d8 := HP3.out.cell 8
                simp only [List.getElem?_toArray, List.getElem?_cons_zero, List.getElem?_cons_succ] at d0 d1 d2 d3 d4 d5 d6 d7 d8
                have HR := hide HP3.out.res
                have hv' : v < 1 := by omega
                clear hat k13 hA H1 HST
                go_wp2_with fail
                obtain ⟨sb, hsb⟩ : ∃ sb, w.heap.size + 1 = sb := ⟨_, rfl⟩
                obtain ⟨rb, hrb⟩ : ∃ rb, w.heap.size = rb := ⟨_, rfl⟩
                have hne : ¬ rb = sb := by omega
                have hne2 : ¬ rb = pk := by omega
                rw [hsb] at d0 d1 d2 d3 d4 d5 d6 d7 d8 ⊢
                rw [hrb] at HR ⊢
                go_region_held3 (fun w' => w'.cell? ⟨sb, 0, none⟩ = some (.string q) ∧ w'.cell? ⟨sb, 1, none⟩ = some (.bool b1) ∧ w'.cell? ⟨sb, 2, none⟩ = some (.bool b2) ∧ w'.cell? ⟨sb, 3, none⟩ = some (.int .i64 i3) ∧ w'.cell? ⟨sb, 4, none⟩ = some (.int .i64 i4) ∧ w'.cell? ⟨sb, 5, none⟩ = some (.int .i64 i5) ∧ w'.cell? ⟨sb, 6, none⟩ = some (.int .i64 i6) ∧ w'.cell? ⟨sb, 7, none⟩ = some (.bool b7) ∧ w'.cell? ⟨sb, 8, none⟩ = some (.bool b8) ∧ w'.cell? ⟨pk, 0, none⟩ = some (.string (cn j))) (go_keep)
                  ((go_at_call 14; refine (errf0n rfl).mono ?_; rintro e w1 ⟨a, rfl, hb⟩; have g0 := keep_cell hb d0; have g1 := keep_cell hb d1; have g2 := keep_cell hb d2; have g3 := keep_cell hb d3; have g4 := keep_cell hb d4; have g5 := keep_cell hb d5; have g6 := keep_cell hb d6; have g7 := keep_cell hb d7; have g8 := keep_cell hb d8; have gn := keep_cell hb k03; have hrr := keep_row hb HR.out; have z0 := row0 hrr; have z1 := row1 hrr; have z2 := row2 hrr; have z3 := row3 hrr; have z4 := row4 hrr; have z5 := row5 hrr; have z6 := row6 hrr; have z7 := row7 hrr; have z8 := row8 hrr; have fz := row_free hrr; have HRR := hide hrr; clear hrr))
                have HB2 := hide hb
                clear hb g0 g1 g2 g3 g4 g5 g6 g7 g8 gn z0 z1 z2 z3 z4 z5 z6 z7 z8 fz
                go_wp2_with fail
                have hB1 : Below w.heap.size w w1 := ((HP3.out.bel.alloc HP3.out.bel.size _).drew).trans (HB2.out.mono (by show _ ≤ (W3.alloc _).heap.size; have := HP3.out.bel.size; simp; omega))
                exact ps_ret rfl rfl (set9_row HRR.out _ _ _ _ _ _ _ _ _) rfl HFP.out (.inr ⟨⟨_, rfl⟩, rfl⟩) (set9_below hB1 (by omega) _ _ _ _ _ _ _ _ _)
            · have H1 := hide (HST.out.trans (cStep_no HTE.out hat))
              obtain ⟨q, b1, b2, i3, i4, i5, i6, b7, b8, hA⟩ := wf_cRun T j hj
              rw [hA] at HP3 H1
              have HFP := hide (fail_cf T (i := j + 1) (by omega) (by rw [H1.out]))
              rw [H1.out] at HFP
              have d0 := HP3.out.cell 0
              have d1 := HP3.out.cell 1
              have d2 := HP3.out.cell 2
              have d3 := HP3.out.cell 3
              have d4 := HP3.out.cell 4
              have d5 := HP3.out.cell 5
              have d6 := HP3.out.cell 6
              have d7 := HP3.out.cell 7
              have d8 := HP3.out.cell 8
              simp only [List.getElem?_toArray, List.getElem?_cons_zero, List.getElem?_cons_succ] at d0 d1 d2 d3 d4 d5 d6 d7 d8
              have HR := hide HP3.out.res
              clear hat k13 hA H1 HST
              go_wp2_with fail
              obtain ⟨sb, hsb⟩ : ∃ sb, w.heap.size + 1 = sb := ⟨_, rfl⟩
              obtain ⟨rb, hrb⟩ : ∃ rb, w.heap.size = rb := ⟨_, rfl⟩
              have hne : ¬ rb = sb := by omega
              have hne2 : ¬ rb = pk := by omega
              rw [hsb] at d0 d1 d2 d3 d4 d5 d6 d7 d8 ⊢
              rw [hrb] at HR ⊢
              go_region_held3 (fun w' => w'.cell? ⟨sb, 0, none⟩ = some (.string q) ∧ w'.cell? ⟨sb, 1, none⟩ = some (.bool b1) ∧ w'.cell? ⟨sb, 2, none⟩ = some (.bool b2) ∧ w'.cell? ⟨sb, 3, none⟩ = some (.int .i64 i3) ∧ w'.cell? ⟨sb, 4, none⟩ = some (.int .i64 i4) ∧ w'.cell? ⟨sb, 5, none⟩ = some (.int .i64 i5) ∧ w'.cell? ⟨sb, 6, none⟩ = some (.int .i64 i6) ∧ w'.cell? ⟨sb, 7, none⟩ = some (.bool b7) ∧ w'.cell? ⟨sb, 8, none⟩ = some (.bool b8) ∧ w'.cell? ⟨pk, 0, none⟩ = some (.string (cn j))) (go_keep)
                ((go_at_call 14; refine (errf0n rfl).mono ?_; rintro e w1 ⟨a, rfl, hb⟩; have g0 := keep_cell hb d0; have g1 := keep_cell hb d1; have g2 := keep_cell hb d2; have g3 := keep_cell hb d3; have g4 := keep_cell hb d4; have g5 := keep_cell hb d5; have g6 := keep_cell hb d6; have g7 := keep_cell hb d7; have g8 := keep_cell hb d8; have gn := keep_cell hb k03; have hrr := keep_row hb HR.out; have z0 := row0 hrr; have z1 := row1 hrr; have z2 := row2 hrr; have z3 := row3 hrr; have z4 := row4 hrr; have z5 := row5 hrr; have z6 := row6 hrr; have z7 := row7 hrr; have z8 := row8 hrr; have fz := row_free hrr; have HRR := hide hrr; clear hrr))
              have HB2 := hide hb
              clear hb g0 g1 g2 g3 g4 g5 g6 g7 g8 gn z0 z1 z2 z3 z4 z5 z6 z7 z8 fz
              go_wp2_with fail
              have hB1 : Below w.heap.size w w1 := ((HP3.out.bel.alloc HP3.out.bel.size _).drew).trans (HB2.out.mono (by show _ ≤ (W3.alloc _).heap.size; have := HP3.out.bel.size; simp; omega))
              exact ps_ret rfl rfl (set9_row HRR.out _ _ _ _ _ _ _ _ _) rfl HFP.out (.inr ⟨⟨_, rfl⟩, rfl⟩) (set9_below hB1 (by omega) _ _ _ _ _ _ _ _ _)
        · have : j = 3 := by omega
          subst this
          have HP3 := hide hP
          clear hP
          go_wp2_with fail
          go_meet
          case rel => exact ⟨hnf, HP3.out⟩
  case rest =>
    obtain ⟨hnf, hP⟩ := hcut
    have hG := HG.out.later hP.bel
    obtain ⟨hg, hts⟩ := hG 4 (by omega)
    have hg' : GetIs wc mb ⟨#[110, 117, 109, 98, 101, 114]⟩ (T 4) := hg
    have hls := HL.out.later hP.bel
    have hn : nRun T = nStep (cRun T 3).1 (T 4) := by rw [nRun, hnf]; rfl
    obtain ⟨t, ht⟩ : ∃ t, T 4 = t := ⟨_, rfl⟩
    rw [ht] at hg' hts hn
    have HPc := hide hP
    have HGc := hide hg'
    have HN := hide hn
    have HLc := hide hls
    clear hP hG hg hg' hn ht hls HP
    go_wp2_with fail
    refine (get_any mb _ t _ (by decide) HGc.out).mono ?_
    rintro e w' ⟨rfl, hw'⟩
    obtain rfl := hw'.symm
    clear HGc
    go_upto_if 66 with fail
    go_cut [] (fun W => (nRun T).2 = false ∧ Ps w W cb fb (nRun T).1)
    case first =>
      by_cases hte : t = ByteArray.empty
      · have h1 : nRun T = ((cRun T 3).1, false) := by rw [HN.out, nStep, if_pos hte]
        have H1 := hide h1
        have htq : t.toList.isEmpty = true := by rw [hte, Lib.toList_data]; rfl
        clear h1 hte
        rw [htq]
        go_wp2_with fail
        go_meet
        case rel => exact ⟨by rw [H1.out], by rw [H1.out]; exact HPc.out⟩
      · have htq : (t.toList == []) = false := by rw [Lib.toList_data]; exact beq_eq_false_iff_ne.2 fun e => hte (bytes_eq (l := #[]).2 e)
        have hti : t.toList.isEmpty = false := by
          cases hq : t.toList with
          | nil => rw [hq] at htq; cases htq
          | cons _ _ => rfl
        have HTE := hide hte
        clear hte
        rw [hti]
        go_wp2_with fail
        refine (atoi_any t (by omega) _ HLc.out).mono ?_
        rintro e W3 ⟨v, ev, rfl, hb3, hcase⟩
        have HP3 := hide (HPc.out.later hb3)
        clear hb3 HPc HLc
        rcases hcase with ⟨rfl, hat, hv0, hv1⟩ | ⟨⟨te, pe, rfl⟩, hat⟩
        · by_cases hv : 0 ≤ v
          · have H1 := hide (HN.out.trans (nStep_yes HTE.out hat hv))
            have hwf := (wf_cRun T 3 (by omega)).size
            obtain ⟨u, hu⟩ : ∃ u, (cRun T 3).1[6]? = some u := ⟨_, Array.getElem?_eq_getElem (by rw [hwf]; omega)⟩
            obtain ⟨u', hu'⟩ : ∃ u, (cRun T 3).1[7]? = some u := ⟨_, Array.getElem?_eq_getElem (by rw [hwf]; omega)⟩
            have hcell : W3.cell? ⟨w.heap.size + 1, 6, none⟩ = some u := by rw [HP3.out.cell]; exact hu
            have hcell' : W3.cell? ⟨w.heap.size + 1, 7, none⟩ = some u' := by rw [HP3.out.cell]; exact hu'
            have hfr : ∀ i, W3.frozen? ⟨w.heap.size + 1, i, none⟩ = false := fun i => frozen_of_row W3 _ _ _ _ HP3.out.row
            clear hat hwf hu hu'
            go_wp2_with fail
            go_meet
            case rel => exact ⟨by rw [H1.out], by rw [H1.out]; exact (HP3.out.set _ _).set _ _⟩
          · have H1 := hide (HN.out.trans (nStep_small HTE.out hat (by omega)))
            obtain ⟨q, b1, b2, i3, i4, i5, i6, b7, b8, hA⟩ := wf_cRun T 3 (by omega)
            rw [hA] at HP3 H1
            have HFP := hide (fail_nf T (by rw [H1.out]))
            rw [H1.out] at HFP
            have d0 := HP3.out.cell 0
            have d1 := HP3.out.cell 1
            have d2 := HP3.out.cell 2
            have d3 := HP3.out.cell 3
            have d4 := HP3.out.cell 4
            have d5 := HP3.out.cell 5
            have d6 := HP3.out.cell 6
            have d7 := HP3.out.cell 7
            have d8 := HP3.out.cell 8
            simp only [List.getElem?_toArray, List.getElem?_cons_zero, List.getElem?_cons_succ] at d0 d1 d2 d3 d4 d5 d6 d7 d8
            have HR := hide HP3.out.res
            have hv' : v < 0 := by omega
            clear hat hA H1 HN
            go_wp2_with fail
            obtain ⟨sb, hsb⟩ : ∃ sb, w.heap.size + 1 = sb := ⟨_, rfl⟩
            obtain ⟨rb, hrb⟩ : ∃ rb, w.heap.size = rb := ⟨_, rfl⟩
            have hne : ¬ rb = sb := by omega
            rw [hsb] at d0 d1 d2 d3 d4 d5 d6 d7 d8 ⊢
            rw [hrb] at HR ⊢
            go_region_held3 (fun w' => w'.cell? ⟨sb, 0, none⟩ = some (.string q) ∧ w'.cell? ⟨sb, 1, none⟩ = some (.bool b1) ∧ w'.cell? ⟨sb, 2, none⟩ = some (.bool b2) ∧ w'.cell? ⟨sb, 3, none⟩ = some (.int .i64 i3) ∧ w'.cell? ⟨sb, 4, none⟩ = some (.int .i64 i4) ∧ w'.cell? ⟨sb, 5, none⟩ = some (.int .i64 i5) ∧ w'.cell? ⟨sb, 6, none⟩ = some (.int .i64 i6) ∧ w'.cell? ⟨sb, 7, none⟩ = some (.bool b7) ∧ w'.cell? ⟨sb, 8, none⟩ = some (.bool b8)) (go_keep)
              ((go_at_call 14; refine (errf1n rfl).mono ?_; rintro e w1 ⟨a, rfl, hb⟩; have g0 := keep_cell hb d0; have g1 := keep_cell hb d1; have g2 := keep_cell hb d2; have g3 := keep_cell hb d3; have g4 := keep_cell hb d4; have g5 := keep_cell hb d5; have g6 := keep_cell hb d6; have g7 := keep_cell hb d7; have g8 := keep_cell hb d8; have hrr := keep_row hb HR.out; have z0 := row0 hrr; have z1 := row1 hrr; have z2 := row2 hrr; have z3 := row3 hrr; have z4 := row4 hrr; have z5 := row5 hrr; have z6 := row6 hrr; have z7 := row7 hrr; have z8 := row8 hrr; have fz := row_free hrr; have HRR := hide hrr; clear hrr))
            have HB2 := hide hb
            clear hb g0 g1 g2 g3 g4 g5 g6 g7 g8 z0 z1 z2 z3 z4 z5 z6 z7 z8 fz
            go_wp2_with fail
            have hB1 : Below w.heap.size w w1 := ((HP3.out.bel.alloc HP3.out.bel.size _).drew).trans (HB2.out.mono (by show _ ≤ (W3.alloc _).heap.size; have := HP3.out.bel.size; simp; omega))
            exact ps_ret rfl rfl (set9_row HRR.out _ _ _ _ _ _ _ _ _) rfl HFP.out (.inr ⟨⟨_, rfl⟩, rfl⟩) (set9_below hB1 (by omega) _ _ _ _ _ _ _ _ _)
        · have H1 := hide (HN.out.trans (nStep_no HTE.out hat))
          obtain ⟨q, b1, b2, i3, i4, i5, i6, b7, b8, hA⟩ := wf_cRun T 3 (by omega)
          rw [hA] at HP3 H1
          have HFP := hide (fail_nf T (by rw [H1.out]))
          rw [H1.out] at HFP
          have d0 := HP3.out.cell 0
          have d1 := HP3.out.cell 1
          have d2 := HP3.out.cell 2
          have d3 := HP3.out.cell 3
          have d4 := HP3.out.cell 4
          have d5 := HP3.out.cell 5
          have d6 := HP3.out.cell 6
          have d7 := HP3.out.cell 7
          have d8 := HP3.out.cell 8
          simp only [List.getElem?_toArray, List.getElem?_cons_zero, List.getElem?_cons_succ] at d0 d1 d2 d3 d4 d5 d6 d7 d8
          have HR := hide HP3.out.res
          clear hat hA H1 HN
          go_wp2_with fail
          obtain ⟨sb, hsb⟩ : ∃ sb, w.heap.size + 1 = sb := ⟨_, rfl⟩
          obtain ⟨rb, hrb⟩ : ∃ rb, w.heap.size = rb := ⟨_, rfl⟩
          have hne : ¬ rb = sb := by omega
          rw [hsb] at d0 d1 d2 d3 d4 d5 d6 d7 d8 ⊢
          rw [hrb] at HR ⊢
          go_region_held3 (fun w' => w'.cell? ⟨sb, 0, none⟩ = some (.string q) ∧ w'.cell? ⟨sb, 1, none⟩ = some (.bool b1) ∧ w'.cell? ⟨sb, 2, none⟩ = some (.bool b2) ∧ w'.cell? ⟨sb, 3, none⟩ = some (.int .i64 i3) ∧ w'.cell? ⟨sb, 4, none⟩ = some (.int .i64 i4) ∧ w'.cell? ⟨sb, 5, none⟩ = some (.int .i64 i5) ∧ w'.cell? ⟨sb, 6, none⟩ = some (.int .i64 i6) ∧ w'.cell? ⟨sb, 7, none⟩ = some (.bool b7) ∧ w'.cell? ⟨sb, 8, none⟩ = some (.bool b8)) (go_keep)
            ((go_at_call 14; refine (errf1n rfl).mono ?_; rintro e w1 ⟨a, rfl, hb⟩; have g0 := keep_cell hb d0; have g1 := keep_cell hb d1; have g2 := keep_cell hb d2; have g3 := keep_cell hb d3; have g4 := keep_cell hb d4; have g5 := keep_cell hb d5; have g6 := keep_cell hb d6; have g7 := keep_cell hb d7; have g8 := keep_cell hb d8; have hrr := keep_row hb HR.out; have z0 := row0 hrr; have z1 := row1 hrr; have z2 := row2 hrr; have z3 := row3 hrr; have z4 := row4 hrr; have z5 := row5 hrr; have z6 := row6 hrr; have z7 := row7 hrr; have z8 := row8 hrr; have fz := row_free hrr; have HRR := hide hrr; clear hrr))
          have HB2 := hide hb
          clear hb g0 g1 g2 g3 g4 g5 g6 g7 g8 z0 z1 z2 z3 z4 z5 z6 z7 z8 fz
          go_wp2_with fail
          have hB1 : Below w.heap.size w w1 := ((HP3.out.bel.alloc HP3.out.bel.size _).drew).trans (HB2.out.mono (by show _ ≤ (W3.alloc _).heap.size; have := HP3.out.bel.size; simp; omega))
          exact ps_ret rfl rfl (set9_row HRR.out _ _ _ _ _ _ _ _ _) rfl HFP.out (.inr ⟨⟨_, rfl⟩, rfl⟩) (set9_below hB1 (by omega) _ _ _ _ _ _ _ _ _)
    case rest =>
      clear HPc HLc HN
      obtain ⟨hnf2, hP2⟩ := hcut
      have HP := hide hP2
      clear hP2 hnf hts
      go_upto_block 2 with fail
      go_cut [88] (fun s W => (fRun T 3).2 = false ∧ Ps w W cb fb (fRun T 3).1)
      case first =>
        go_wp2_with fail
        go_loopw [88] (fun s W => ∃ j : Nat, j ≤ 3 ∧ s = .int .i64 j ∧ (fRun T j).2 = false ∧ Ps w W cb fb (fRun T j).1) (fun s _ => 3 - (intOf s).toNat)
        case atStart => exact ⟨0, by omega, rfl, hnf2, HP.out⟩
        case round =>
          clear HP
          obtain ⟨j, hj, rfl, hnf, hP⟩ := hrel
          by_cases hlt : j < 3
          · have k0 := hP.sp.f0 j hlt
            have k1 := hP.sp.f1 j hlt
            have hG := HG.out.later hP.bel
            obtain ⟨hg, hts⟩ := hG (5 + j) (by omega)
            have hnm : nm (5 + j) = fn j := by
              match j, hlt with
              | 0, _ => rfl
              | 1, _ => rfl
              | 2, _ => rfl
            rw [hnm] at hg
            have hstep : fRun T (j + 1) = bStep (fRun T j).1 (fo j) (T (5 + j)) := by rw [fRun, hnf]; rfl
            obtain ⟨t, ht⟩ : ∃ t, T (5 + j) = t := ⟨_, rfl⟩
            rw [ht] at hg hts hstep
            have hls := HL.out.later hP.bel
            have HPj := hide hP
            have HGj := hide hg
            have HST := hide hstep
            have HLs := hide hls
            have hcs : (fn j).size ≤ maxLen := by rw [← hnm]; exact nmsz _
            clear hP hg hstep ht hG hls hnm
            go_wp2_with fail
            have hba := (Below.refl wr.heap.size wr).alloc (Nat.le_refl _) (Obj.cells #[.string (fn j), .pointer (some ⟨w.heap.size + 1, fo j, none⟩)] 61)
            have hnew := heap_alloc_new wr (Obj.cells #[.string (fn j), .pointer (some ⟨w.heap.size + 1, fo j, none⟩)] 61)
            refine (get_any mb (fn j) t _ hcs (HGj.out.later hba)).mono ?_
            rintro e w' ⟨rfl, hw'⟩
            obtain rfl := hw'.symm
            have HPa := hide (HPj.out.later hba)
            have HLa := hide (HLs.out.later hba)
            obtain ⟨pk, hpk⟩ : ∃ pk, wr.heap.size = pk := ⟨_, rfl⟩
            rw [hpk] at hnew ⊢
            have hpl : w.heap.size + 2 ≤ pk := by have := HPj.out.sp.lt.1; have := HPj.out.hc; omega
            clear hba hpk HPj HGj HLs k0 k1
            generalize wr.alloc (Obj.cells #[.string (fn j), .pointer (some ⟨w.heap.size + 1, fo j, none⟩)] 61) = Wp at *
            have k0 : Wp.cell? ⟨pk, 0, none⟩ = some (.string (fn j)) := by rw [cell_of_row _ _ _ _ _ _ hnew]; rfl
            have k1 : Wp.cell? ⟨pk, 1, none⟩ = some (.pointer (some ⟨w.heap.size + 1, fo j, none⟩)) := by rw [cell_of_row _ _ _ _ _ _ hnew]; rfl
            clear hnew
            by_cases hte : t = ByteArray.empty
            · have h1 : fRun T (j + 1) = ((fRun T j).1, false) := by rw [HST.out, bStep, if_pos hte]
              have H1 := hide h1
              clear h1
              subst hte
              go_wp2_with fail
              go_roundw
              case rel => exact ⟨j + 1, by omega, by go_num, by rw [H1.out], by rw [H1.out]; exact HPa.out⟩
              case measure => simp [intOf]; omega
            · have htq : (t.toList == []) = false := by rw [Lib.toList_data]; exact beq_eq_false_iff_ne.2 fun e => hte (bytes_eq (l := #[]).2 e)
              have HTE := hide hte
              clear hte
              go_wp2_with fail
              refine (pbool_any t (by omega) _ HLa.out).mono ?_
              rintro e W3 ⟨v, ev, rfl, hb3, hcase⟩
              have HP3 := hide (HPa.out.later hb3)
              have k03 : W3.cell? ⟨pk, 0, none⟩ = some (.string (fn j)) := by rw [hb3.cell (World.block_lt_of_cell? _ _ k0)]; exact k0
              have k13 : W3.cell? ⟨pk, 1, none⟩ = some (.pointer (some ⟨w.heap.size + 1, fo j, none⟩)) := by rw [hb3.cell (World.block_lt_of_cell? _ _ k1)]; exact k1
              clear hb3 k0 k1 HPa HLa
              rcases hcase with ⟨rfl, hat⟩ | ⟨⟨te, pe, rfl⟩, hat⟩
              · have H1 := hide (HST.out.trans (bStep_yes HTE.out hat))
                have hwf := (wf_fRun T j hj).size
                have hfo : fo j < 9 := by unfold fo; split <;> omega
                obtain ⟨u, hu⟩ : ∃ u, (fRun T j).1[fo j]? = some u := ⟨_, Array.getElem?_eq_getElem (by rw [hwf]; exact hfo)⟩
                have hcell : W3.cell? ⟨w.heap.size + 1, fo j, none⟩ = some u := by rw [HP3.out.cell]; exact hu
                have hfr : W3.frozen? ⟨w.heap.size + 1, fo j, none⟩ = false := frozen_of_row W3 _ _ _ _ HP3.out.row
                clear hat hwf hu hfo
                go_wp2_with fail
                go_roundw
                case rel => exact ⟨j + 1, by omega, by go_num, by rw [H1.out], by rw [H1.out]; exact HP3.out.set _ _⟩
                case measure => simp [intOf]; omega
              · have H1 := hide (HST.out.trans (bStep_no HTE.out hat))
                obtain ⟨q, b1, b2, i3, i4, i5, i6, b7, b8, hA⟩ := wf_fRun T j hj
                rw [hA] at HP3 H1
                have HFP := hide (fail_f T (i := j + 1) (by rw [H1.out]) 3 (by omega))
                rw [H1.out] at HFP
                have d0 := HP3.out.cell 0
                have d1 := HP3.out.cell 1
                have d2 := HP3.out.cell 2
                have d3 := HP3.out.cell 3
                have d4 := HP3.out.cell 4
                have d5 := HP3.out.cell 5
                have d6 := HP3.out.cell 6
                have d7 := HP3.out.cell 7
                have d8 := HP3.out.cell 8
                simp only [List.getElem?_toArray, List.getElem?_cons_zero, List.getElem?_cons_succ] at d0 d1 d2 d3 d4 d5 d6 d7 d8
                have HR := hide HP3.out.res
                clear hat k13 hA H1 HST
                go_wp2_with fail
                obtain ⟨sb, hsb⟩ : ∃ sb, w.heap.size + 1 = sb := ⟨_, rfl⟩
                obtain ⟨rb, hrb⟩ : ∃ rb, w.heap.size = rb := ⟨_, rfl⟩
                have hne : ¬ rb = sb := by omega
                have hne2 : ¬ rb = pk := by omega
                rw [hsb] at d0 d1 d2 d3 d4 d5 d6 d7 d8 ⊢
                rw [hrb] at HR ⊢
                go_region_held3 (fun w' => w'.cell? ⟨sb, 0, none⟩ = some (.string q) ∧ w'.cell? ⟨sb, 1, none⟩ = some (.bool b1) ∧ w'.cell? ⟨sb, 2, none⟩ = some (.bool b2) ∧ w'.cell? ⟨sb, 3, none⟩ = some (.int .i64 i3) ∧ w'.cell? ⟨sb, 4, none⟩ = some (.int .i64 i4) ∧ w'.cell? ⟨sb, 5, none⟩ = some (.int .i64 i5) ∧ w'.cell? ⟨sb, 6, none⟩ = some (.int .i64 i6) ∧ w'.cell? ⟨sb, 7, none⟩ = some (.bool b7) ∧ w'.cell? ⟨sb, 8, none⟩ = some (.bool b8) ∧ w'.cell? ⟨pk, 0, none⟩ = some (.string (fn j))) (go_keep)
                  ((go_at_call 14; refine (errf2n rfl).mono ?_; rintro e w1 ⟨a, rfl, hb⟩; have g0 := keep_cell hb d0; have g1 := keep_cell hb d1; have g2 := keep_cell hb d2; have g3 := keep_cell hb d3; have g4 := keep_cell hb d4; have g5 := keep_cell hb d5; have g6 := keep_cell hb d6; have g7 := keep_cell hb d7; have g8 := keep_cell hb d8; have gn := keep_cell hb k03; have hrr := keep_row hb HR.out; have z0 := row0 hrr; have z1 := row1 hrr; have z2 := row2 hrr; have z3 := row3 hrr; have z4 := row4 hrr; have z5 := row5 hrr; have z6 := row6 hrr; have z7 := row7 hrr; have z8 := row8 hrr; have fz := row_free hrr; have HRR := hide hrr; clear hrr))
                have HB2 := hide hb
                clear hb g0 g1 g2 g3 g4 g5 g6 g7 g8 gn z0 z1 z2 z3 z4 z5 z6 z7 z8 fz
                go_wp2_with fail
                have hB1 : Below w.heap.size w w1 := ((HP3.out.bel.alloc HP3.out.bel.size _).drew).trans (HB2.out.mono (by show _ ≤ (W3.alloc _).heap.size; have := HP3.out.bel.size; simp; omega))
                exact ps_ret rfl rfl (set9_row HRR.out _ _ _ _ _ _ _ _ _) rfl HFP.out (.inr ⟨⟨_, rfl⟩, rfl⟩) (set9_below hB1 (by omega) _ _ _ _ _ _ _ _ _)
          · have : j = 3 := by omega
            subst this
            have HP3 := hide hP
            clear hP
            go_wp2_with fail
            go_meet
            case rel => exact ⟨hnf, HP3.out⟩
      case rest =>
        obtain ⟨hnf3, hP3⟩ := hcut
        obtain ⟨q, b1, b2, i3, i4, i5, i6, b7, b8, hA⟩ := wf_fRun T 3 (by omega)
        have hf3 : fRun T 3 = ((fRun T 3).1, false) := by rw [← hnf3]
        rw [hA] at hP3 hf3
        have d0 := hP3.cell 0
        have d1 := hP3.cell 1
        have d2 := hP3.cell 2
        have d3 := hP3.cell 3
        have d4 := hP3.cell 4
        have d5 := hP3.cell 5
        have d6 := hP3.cell 6
        have d7 := hP3.cell 7
        have d8 := hP3.cell 8
        simp only [List.getElem?_toArray, List.getElem?_cons_zero, List.getElem?_cons_succ] at d0 d1 d2 d3 d4 d5 d6 d7 d8
        have hrr := hP3.res
        have z0 := row0 hrr
        have z1 := row1 hrr
        have z2 := row2 hrr
        have z3 := row3 hrr
        have z4 := row4 hrr
        have z5 := row5 hrr
        have z6 := row6 hrr
        have z7 := row7 hrr
        have z8 := row8 hrr
        have fz := row_free hrr
        have HRR := hide hrr
        have HF3 := hide hf3
        have HP3 := hide hP3
        clear hrr hf3 hP3 hnf3 hA HP hnf2
        go_wp2_with fail
        exact ps_ret rfl rfl (set9_row HRR.out _ _ _ _ _ _ _ _ _) rfl HF3.out (.inl ⟨rfl, rfl⟩) (set9_below HP3.out.bel (Nat.le_refl _) _ _ _ _ _ _ _ _ _)
end Go.Proofs.YbulkednkFmt
