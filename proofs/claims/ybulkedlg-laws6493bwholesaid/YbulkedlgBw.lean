import Derived.Test.YbulkedlgRows
import Derived.WalkKit
import Derived.WalkSpells
import Derived.WalkLawsBesides
namespace Go.Proofs.Ybulkedlg
open Go.RowKit
set_option linter.unusedVariables false

theorem hide {p : Prop} (h : p) : Hid p := h
theorem ret_bool {a b : Bool} (h : a = b) : Ending.returned (.bool a) = .returned (.bool b) := by rw [h]
theorem bool_or (b : Bool) : b = true ∨ b = false := by cases b <;> simp
theorem at_op {P : Program} {ops : Array Oper} {rest : List Oper} {op : Oper} {a : Act} {w : World} {Q : Exit → Act → World → Prop} (o : Op) (_ : op.op = o) (k : wpList P ops Q (op :: rest) a w) : wpList P ops Q (op :: rest) a w := k

theorem Yba.info5 : (Yba.prog.info? 5).map (fun i => (i.zero, i.size, i.bytes)) = some (some (.int .u8 0), 1, 1) := by kernel_rfl

/-- The bit writer's whole block. -/
def BwB (T : Nat) (w : World) (v : Value) (acc n : Int) (plain : Bool) : Prop :=
  w.heap[T]? = some (.cells #[.nilIface, v, .int .u64 acc, .int .i64 n, .bool plain] 29 (0, 0))

/-- Bytes as cells. -/
def bs (l : List UInt8) : List Value := l.map fun c => Value.int .u8 c.toNat

theorem bs_append (a b : List UInt8) : bs (a ++ b) = bs a ++ bs b := by simp [bs]

/-- The bit writer at T, its buffer of the call's own (blocks from B on) holding the bytes l. -/
structure Bw (B T : Nat) (w : World) (v : Value) (l : List UInt8) (acc n : Int) (plain : Bool) : Prop where
  blk : BwB T w v acc n plain
  own : w.ownsRow B 5 1 v l.length (bs l)
  hB : B ≤ T

theorem BwB.cell {T : Nat} {w : World} {v : Value} {acc n : Int} {plain : Bool} (h : BwB T w v acc n plain) (j : Nat) : w.cell? ⟨T, j, none⟩ = #[Value.nilIface, v, .int .u64 acc, .int .i64 n, .bool plain][j]? := cell_of_row _ _ _ _ _ _ h
theorem BwB.free {T : Nat} {w : World} {v : Value} {acc n : Int} {plain : Bool} (h : BwB T w v acc n plain) (j : Nat) : w.frozen? ⟨T, j, none⟩ = false := frozen_of_row w _ _ _ _ h
theorem BwB.lt {T : Nat} {w : World} {v : Value} {acc n : Int} {plain : Bool} (h : BwB T w v acc n plain) : T < w.heap.size := (Array.getElem?_eq_some_iff.1 h).1
theorem BwB.put {T : Nat} {w : World} {v : Value} {acc n : Int} {plain : Bool} (h : BwB T w v acc n plain) (j : Nat) (u : Value) :
    (w.setCell ⟨T, j, none⟩ u).heap[T]? = some (.cells (#[Value.nilIface, v, .int .u64 acc, .int .i64 n, .bool plain].setIfInBounds j u) 29 (0, 0)) := heap_setCell_same w _ _ _ _ _ h

theorem Bw.ne {B T : Nat} {w : World} {v : Value} {l : List UInt8} {acc n : Int} {plain : Bool} (h : Bw B T w v l acc n plain) : some T ≠ v.ownBlock := by
  intro e
  rcases h.own.2 with ⟨rfl, _⟩ | ⟨g, cap, cur, rfl, _, hg, _⟩
  · simp [Value.ownBlock] at e
  · simp [Value.ownBlock] at e
    subst e
    have := h.blk
    unfold BwB at this
    rw [hg] at this
    simp at this

/-- What an append to the buffer, laid back into the field, leaves. -/
theorem Bw.appended {B T : Nat} {w w1 : World} {o : Obj} {v v' : Value} {l : List UInt8} {acc n : Int} {plain : Bool} (h : Bw B T w v l acc n plain) (news : List UInt8)
    (hown : w1.ownsRow B 5 1 v' (l.length + news.length) (bs l ++ bs news)) (hg : (w.alloc o).grownBy w1 v.ownBlock) :
    Bw B T (w1.setCell ⟨T, 1, none⟩ v') v' (l ++ news) acc n plain ∧ Below B w (w1.setCell ⟨T, 1, none⟩ v') ∧ w1.cell? ⟨T, 1, none⟩ = some v ∧ w1.frozen? ⟨T, 1, none⟩ = false := by
  have hlt := h.blk.lt
  have hb1 : BwB T w1 v acc n plain := by
    unfold BwB
    rw [hg.block T (by simp; omega) h.ne, Below.heap_alloc _ _ _ hlt]
    exact h.blk
  have hne' : some T ≠ v'.ownBlock := by
    intro e
    rcases hown.2 with ⟨rfl, _⟩ | ⟨g, cap, cur, rfl, _, hg', _⟩
    · simp [Value.ownBlock] at e
    · simp [Value.ownBlock] at e
      subst e
      unfold BwB at hb1
      rw [hg'] at hb1
      simp at hb1
  refine ⟨⟨hb1.put 1 v', ?_, h.hB⟩, ?_, hb1.cell 1, hb1.free 1⟩
  · rw [List.length_append, bs_append]
    refine ⟨hown.1, ?_⟩
    rcases hown.2 with h' | ⟨g, cap, cur, rfl, h1, h2, r⟩
    · exact .inl h'
    · refine .inr ⟨g, cap, cur, rfl, h1, ?_, r⟩
      rw [Below.heap_setCell _ _ _ _ (fun e => hne' (by simp [Value.ownBlock]; exact e.symm))]
      exact h2
  · have hb : Below B w w1 := ((Below.refl B w).alloc (by have := h.hB; omega) o).grown hg (by have := h.hB; simp; omega) (fun k hk => (h.own.lt k hk).1)
    exact hb.setCell h.hB v'

theorem own_shape {w : World} {B : Nat} {v : Value} {k : Nat} {xs : List Value} (h : w.ownsRow B 5 1 v k xs) (h0 : 0 < k) : ∃ g cap, v = .slice (some ⟨g, 0, none⟩) k cap := by
  rcases h.2 with ⟨_, h'⟩ | ⟨g, cap, cur, rfl, _⟩
  · omega
  · exact ⟨g, cap, rfl⟩

/-- A byte, with a zero behind it where it is 0xFF. -/
def stuff (c : UInt8) : List UInt8 := if c = 255 then [c, 0] else [c]

set_option maxRecDepth 100000 in
set_option maxHeartbeats 1000000 in
theorem appendByte_any (B T : Nat) (w : World) (v : Value) (l : List UInt8) (acc n : Int) (plain : Bool) (c : UInt8) (h : Bw B T w v l acc n plain) (hl : l.length ≤ 2000000) :
    Calls Yba.prog 18 #[.pointer (some ⟨T, 0, none⟩), .int .u8 c.toNat] w fun e w' => e = .returned (.tuple #[]) ∧ ∃ v', Bw B T w' v' (l ++ stuff c) acc n plain ∧ Below B w w' := by
  obtain ⟨i0, hi, hz0, hz1, hz2⟩ := info_parts Yba.info5
  have H := hide h
  have f1 := h.blk.cell 1
  simp only [List.getElem?_toArray, List.getElem?_cons_zero, List.getElem?_cons_succ] at f1
  have hT := h.blk.lt
  have hB := h.hB
  clear h
  by_cases e : c = 255
  · subst e
    go_enter Yba.func18, Yba.ntmps18
    go_wp2_with (refine at_op (.call { callee := .builtin .append, args := #[.tmp 8, .tmp 10], argTypes := #[23, 23] }) rfl ?_; refine wpList_append_own _ rfl _ _ 23 rfl B 5 i0 (.int .u8 0) 1 1 Yba.underlying23 hi hz0 hz1 hz2 rfl (by decide) _ _ _ rfl (H.out.own.alloc _) ⟨w.heap.size, 0, none⟩ 1 1 (bs [255]) rfl rfl (cell_one_new _ _ _) (by simp [bs]; rfl) (by unfold maxLen; omega) (by omega) (by simp; omega) ?_)
    intro v1 w1 hown hgrow _
    obtain ⟨g1, cap1, rfl⟩ := own_shape hown (by omega)
    obtain ⟨hbw, hbel, hc1, hf1⟩ := H.out.appended [255] hown hgrow
    have H2 := hide hbw
    have HB := hide hbel
    have f2 := hbw.blk.cell 1
    simp only [List.getElem?_toArray, List.getElem?_cons_zero, List.getElem?_cons_succ] at f2
    have hT2 := hbw.blk.lt
    clear hown hgrow hbw hbel f1
    have hlen2 : (l ++ [(255 : UInt8)]).length = l.length + 1 := by simp
    have HO2 : Hid ((w1.setCell ⟨T, 1, none⟩ (.slice (some ⟨g1, 0, none⟩) (l.length + 1) cap1)).ownsRow B 5 1 (.slice (some ⟨g1, 0, none⟩) (l.length + 1) cap1) (l.length + 1) (bs (l ++ [255]))) := by
      have := H2.out.own; rw [hlen2] at this; exact this
    clear hlen2
    have hz2' : (w1.setCell ⟨T, 1, none⟩ (.slice (some ⟨g1, 0, none⟩) (l.length + 1) cap1)).heap.size = w1.heap.size := by simp [World.setCell]
    go_wp2_with (refine at_op (.call { callee := .builtin .append, args := #[.tmp 20, .tmp 21], argTypes := #[23, 23] }) rfl ?_; refine wpList_append_own _ rfl _ _ 23 rfl B 5 i0 (.int .u8 0) 1 1 Yba.underlying23 hi hz0 hz1 hz2 rfl (by decide) _ _ _ rfl (HO2.out.alloc _) ⟨w1.heap.size, 0, none⟩ 1 1 (bs [0]) rfl rfl (by rw [← hz2']; exact cell_one_new _ _ _) (by simp [bs]; rfl) (by unfold maxLen; omega) (by omega) (by simp; omega) ?_)
    intro v2 w2 hown hgrow _
    obtain ⟨g2, cap2, rfl⟩ := own_shape hown (by omega)
    obtain ⟨hbw, hbel, hc2, hf2⟩ := H2.out.appended [0] (by rw [List.length_append]; exact hown) hgrow
    have H3 := hide hbw
    have HB2 := hide (HB.out.trans hbel)
    clear hown hgrow hbw hbel f2 hc1 hf1 HO2 hz2' hT2
    go_wp2
    go_end0
    have es : stuff 255 = [255, 0] := by decide
    exact ⟨rfl, _, by rw [es]; have := H3.out; rw [List.append_assoc] at this; exact this, HB2.out⟩
  · have e1 : ((c.toNat : Int) == 255) = false := by
      simp; intro h; exact e (UInt8.toNat_inj.1 (by simpa using Int.ofNat_inj.1 h))
    go_enter Yba.func18, Yba.ntmps18
    go_wp2_with (at_builtin; refine wpList_append_own _ rfl _ _ 23 rfl B 5 i0 (.int .u8 0) 1 1 Yba.underlying23 hi hz0 hz1 hz2 rfl (by decide) _ _ _ rfl (H.out.own.alloc _) ⟨w.heap.size, 0, none⟩ 1 1 (bs [c]) rfl rfl (cell_one_new _ _ _) (by simp [bs]; rfl) (by unfold maxLen; omega) (by omega) (by simp; omega) ?_)
    intro v1 w1 hown hgrow _
    obtain ⟨g1, cap1, rfl⟩ := own_shape hown (by omega)
    obtain ⟨hbw, hbel, hc1, hf1⟩ := H.out.appended [c] hown hgrow
    have H2 := hide hbw
    have HB := hide hbel
    clear hown hgrow hbw hbel f1
    go_wp2
    go_end0
    have es : stuff c = [c] := by simp [stuff, e]
    exact ⟨rfl, _, by rw [es]; exact H2.out, HB.out⟩
end Go.Proofs.Ybulkedlg
