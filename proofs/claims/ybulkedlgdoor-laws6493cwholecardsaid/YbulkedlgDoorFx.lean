import Derived.Test.YbulkedlgDoorBd
namespace Go.Proofs.YbulkedlgDoor
open Go.RowKit
set_option linter.unusedVariables false

/-- 'T{..}' of a great struct: the value by its own fact. -/
theorem wpList_build_as {P : Program} {ops : Array Oper} {rest : List Oper} {o : Oper} {a : Act} {w : World} {Q : Exit → Act → World → Prop} (hg : o.guard = none) (t : TypeId) (parts : Array (Nat × Operand)) (ho : o.op = .build t parts)
    (vals : Array (Nat × Value)) (hv : (parts.toList.map fun (i, x) => (i, a.eval x)) = vals.toList) (cells : Array Value) (hrun : ∀ w, (Instr.build t vals).run P w = .ok (.agg cells) w)
    (h : wpList P ops Q rest (a.put o.dst (.agg cells)) w) : wpList P ops Q (o :: rest) a w :=
  wpList_plain hg fun K' hK' => by
    have hr : (Instr.build t (parts.map fun (i, x) => (i, a.eval x))).run P w = .ok (.agg cells) w := by
      have e : (parts.map fun (i, x) => (i, a.eval x)) = vals := by
        apply Array.toList_inj.1
        rw [Array.toList_map]; exact hv
      rw [e]; exact hrun w
    unfold Oper.wp execOp
    simp only [ho, Sem.run_bind, hr, Result.andThen_ok, Sem.run_pure]
    exact hK' _ _ h

/-- What the law's levelCounts holds. -/
structure Lev (cells : Array Value) (al : Int) (a : Option Addr) (n c : Nat) : Prop where
  c0 : cells[0]? = some (.int .i64 al)
  c1 : cells[1]? = some (.slice none 0 0)
  c2 : cells[2]? = some (.slice none 0 0)
  c3 : cells[3]? = some (.slice a n c)
  ch : cells[1092]? = some (.int .i64 0)
  dr : cells.toList.drop 4 = (zs .u32 1024).toList ++ ((zs .u64 64).toList ++ [.int .i64 0])

theorem Lev.sym {cells : Array Value} {al : Int} {a : Option Addr} {n c : Nat} (h : Lev cells al a n c) {W : World} {L : Nat} (hb : W.heap[L]? = some (.cells cells 49 (0, 0))) : W.rangeAt L 4 (zs .u32 1024).toList := fun j v hv => by
  have hj : j < (zs .u32 1024).toList.length := (List.getElem?_eq_some_iff.1 hv).1
  rw [cell_of_row _ _ _ _ _ _ hb, ← Array.getElem?_toList, ← List.getElem?_drop, h.dr, List.getElem?_append_left hj]
  exact hv
theorem Lev.cod {cells : Array Value} {al : Int} {a : Option Addr} {n c : Nat} (h : Lev cells al a n c) {W : World} {L : Nat} (hb : W.heap[L]? = some (.cells cells 49 (0, 0))) : W.rangeAt L 1028 (zs .u64 64).toList := fun j v hv => by
  have hj : j < (zs .u64 64).toList.length := (List.getElem?_eq_some_iff.1 hv).1
  have hl : (zs .u32 1024).toList.length = 1024 := by unfold zs; rw [List.toList_toArray, List.length_replicate]
  rw [cell_of_row _ _ _ _ _ _ hb, ← Array.getElem?_toList, show 1028 + j = 4 + (1024 + j) by omega, ← List.getElem?_drop, h.dr, List.getElem?_append_right (by omega), hl, show 1024 + j - 1024 = j by omega, List.getElem?_append_left hj]
  exact hv

/-- All that stands when the counting begins (but for the law's own copy of the counts). -/
structure Fx (w W : World) (pb L A : Nat) (I : Inp) (v : Nat → Int) (gb : Nat → Nat) (gc : Nat → Nat → Nat) (cells : Array Value) : Prop where
  bel : Below w.heap.size w W
  hpb : w.heap.size + 1 = pb
  szs : W.heap[w.heap.size]? = some (.cells (szL I.sz).toArray 23 (0, 0))
  p : PoolAt W pb v
  gr : Gr W pb (pb + 2) I gb gc
  lo : ∀ i, i < I.n → pb + 3 ≤ gb i ∧ ∀ j, j < I.m i → pb + 3 ≤ gc i j
  lev : W.heap[L]? = some (.cells cells 49 (0, 0))
  lv : Lev cells I.al (some ⟨pb + 2, 0, none⟩) I.n I.n
  ac : W.heap[A]? = some (.cells (acL I.sz).toArray 55 (0, 0))
  hL : pb + 3 ≤ L
  hA : pb + 3 ≤ A

theorem Gr.of_blocks {W W' : World} {pb gl : Nat} {I : Inp} {gb : Nat → Nat} {gc : Nat → Nat → Nat} (h : Gr W pb gl I gb gc) (h0 : W'.heap[gl]? = W.heap[gl]?) (h1 : ∀ i, i < I.n → W'.heap[gb i]? = W.heap[gb i]?) (h2 : ∀ i j, i < I.n → j < I.m i → W'.heap[gc i j]? = W.heap[gc i j]?) : Gr W' pb gl I gb gc :=
  ⟨h.gne, fun i hi => by rw [World.cell?_of_block (w := W) h0]; exact h.one i hi, fun i hi => by rw [World.cell?_of_block (w := W) h0]; exact h.two i hi, fun i hi => (h.st i hi).of_blocks (h1 i hi) (fun j hj => h2 i j hi hj)⟩

theorem St.blk {W : World} {pb gb f m : Nat} {lst : Nat → Int} {p : Nat → Nat} {gc : Nat → Nat} (h : St W pb gb f m lst p gc) : (0 < m → gb < W.heap.size) ∧ ∀ j, j < m → gc j < W.heap.size :=
  ⟨fun hm => World.block_lt_of_cell? _ _ (h.row 0 hm), fun j hj => (Array.getElem?_eq_some_iff.1 (h.band j hj)).1⟩

/-- The law's own copy is turned: all else stands. -/
theorem Fx.copy {w W W' : World} {pb L A : Nat} {I : Inp} {v : Nat → Int} {gb : Nat → Nat} {gc : Nat → Nat → Nat} {cells : Array Value} (h : Fx w W pb L A I v gb gc cells) (hk : Kp (pb + 1) W W') : Fx w W' pb L A I v gb gc cells := by
  have hp := h.hpb
  have hlt := (Array.getElem?_eq_some_iff.1 h.szs).1
  have hL := h.hL
  have hA := h.hA
  refine ⟨h.bel.trans (hk.below (B := w.heap.size) (by omega) (by omega)), hp, by rw [hk.block _ hlt (by omega)]; exact h.szs, h.p.of_block (hk.block _ h.p.lt (by omega)), ?_, h.lo, ?_, h.lv, ?_, hL, hA⟩
  · refine ⟨h.gr.gne, fun i hi => hk.cell (h.gr.one i hi) (by simp), fun i hi => hk.cell (h.gr.two i hi) (by simp), fun i hi => ?_⟩
    have hst := h.gr.st i hi
    obtain ⟨l1, l2⟩ := h.lo i hi
    exact ⟨fun j hj => hk.cell (hst.row j hj) (by simp; omega), hst.rne, fun j hj => by
      rw [hk.block _ (hst.blk.2 j hj) (by have := l2 j hj; omega)]; exact hst.band j hj, hst.bne⟩
  · rw [hk.block _ (Array.getElem?_eq_some_iff.1 h.lev).1 (by omega)]; exact h.lev
  · rw [hk.block _ (Array.getElem?_eq_some_iff.1 h.ac).1 (by omega)]; exact h.ac

/-- The pool is turned: all else stands. -/
theorem Fx.pool {w W W' : World} {pb L A : Nat} {I : Inp} {v v' : Nat → Int} {gb : Nat → Nat} {gc : Nat → Nat → Nat} {cells : Array Value} (h : Fx w W pb L A I v gb gc cells) (hk : Kp pb W W') (hv : PoolAt W' pb v') : Fx w W' pb L A I v' gb gc cells := by
  have hp := h.hpb
  have hlt := (Array.getElem?_eq_some_iff.1 h.szs).1
  have hL := h.hL
  have hA := h.hA
  exact ⟨h.bel.trans (hk.below (B := w.heap.size) (by omega) (by omega)), hp, by rw [hk.block _ hlt (by omega)]; exact h.szs, hv, h.gr.later hk, h.lo, by rw [hk.block _ (Array.getElem?_eq_some_iff.1 h.lev).1 (by omega)]; exact h.lev, h.lv, by rw [hk.block _ (Array.getElem?_eq_some_iff.1 h.ac).1 (by omega)]; exact h.ac, hL, hA⟩

theorem Fx.later {w W W' : World} {pb L A : Nat} {I : Inp} {v : Nat → Int} {gb : Nat → Nat} {gc : Nat → Nat → Nat} {cells : Array Value} (h : Fx w W pb L A I v gb gc cells) (hb : Below W.heap.size W W') : Fx w W' pb L A I v gb gc cells :=
  h.copy ⟨hb.os, hb.tape, hb.output, hb.size, fun b hb' _ => hb.block b hb'⟩

theorem Fx.ev {w W : World} {pb L A : Nat} {I : Inp} {v : Nat → Int} {gb : Nat → Nat} {gc : Nat → Nat → Nat} {cells : Array Value} (h : Fx w W pb L A I v gb gc cells) (hT : TabAt w) : Ev W L A pb (pb + 2) I := by
  have hp := h.hpb
  have hL := h.hL
  have hA := h.hA
  refine ⟨by rw [cell_of_row _ _ _ _ _ _ h.lev]; exact h.lv.c0, by rw [cell_of_row _ _ _ _ _ _ h.lev]; exact h.lv.c3, fun q hq => by rw [cell_of_row _ _ _ _ _ _ h.ac]; simpa using acL_get I.sz q hq, fun j hj => ?_, by omega, by omega, by omega⟩
  have h0 := hT j hj
  rw [h.bel.cell (World.block_lt_of_cell? _ _ h0)]; exact h0

/-- Behind the two great structs. -/
theorem Fx.made {w W : World} {pb : Nat} {I : Inp} {v0 : Nat → Int} {gb : Nat → Nat} {gc : Nat → Nat → Nat} {cells : Array Value} (h : Bd w W pb I.n I v0 gb gc) (hl : Lev cells I.al (some ⟨pb + 2, 0, none⟩) I.n I.n) :
    Fx w ((W.alloc (.cells cells 49)).alloc (.cells (acL I.sz).toArray 55)) pb W.heap.size (W.heap.size + 1) I v0 gb gc cells ∧ PoolAt ((W.alloc (.cells cells 49)).alloc (.cells (acL I.sz).toArray 55)) (pb + 1) v0 := by
  have hb : Below W.heap.size W ((W.alloc (.cells cells 49)).alloc (.cells (acL I.sz).toArray 55)) := ((Below.refl _ _).alloc (Nat.le_refl _) _).alloc (by simp) _
  have h' := h.below hb
  have hp := h.hpb
  obtain ⟨F, hr, _⟩ := h.r
  have h2 := hr.lt
  refine ⟨⟨h'.s0.bel, hp, h'.s0.szs, h'.p, h'.gr, fun i hi => ⟨(h.lo i hi).1, fun j hj => ((h.lo i hi).2.2 j hj).1⟩, ?_, hl, ?_, by omega, by omega⟩, h'.e⟩
  · rw [Below.heap_alloc _ _ _ (by simp)]; exact heap_alloc_new W _
  · have : W.heap.size + 1 = (W.alloc (.cells cells 49)).heap.size := by simp
    rw [this]; exact heap_alloc_new _ _
end Go.Proofs.YbulkedlgDoor
