import Derived.Test.YbulkedksFmtLawA0
namespace Go.Proofs.YbulkedksFmt
open Go.RowKit Go.Extern.Stop Go.Stop Go.Extern
set_option linter.unusedVariables false

theorem setCells_heap (g : Nat) : ∀ (vs : List Value) (o : Nat) (W : World) (cur : Array Value) (t : TypeId), W.heap[g]? = some (.cells cur t (0, 0)) → ∃ cur' : Array Value, (W.setCells g o vs).heap[g]? = some (.cells cur' t (0, 0)) ∧ cur'.size = cur.size
  | [], _, _, cur, _, h => ⟨cur, h, rfl⟩
  | v :: r, o, W, cur, t, h => by
    have h1 := heap_setCell_same W g o cur t v h
    obtain ⟨c, hc, hs⟩ := setCells_heap g r (o + 1) _ _ _ h1
    exact ⟨c, hc, by rw [hs]; simp⟩
theorem setCells_other (g : Nat) : ∀ (vs : List Value) (o : Nat) (W : World) (k : Nat), k ≠ g → (W.setCells g o vs).heap[k]? = W.heap[k]?
  | [], _, _, _, _ => rfl
  | v :: r, o, W, k, h => by
    rw [World.setCells, setCells_other g r (o + 1) _ k h, Below.heap_setCell _ _ _ _ h]
theorem setCells_below {B : Nat} {a : World} (g : Nat) (hg : B ≤ g) : ∀ (vs : List Value) (o : Nat) (W : World), Below B a W → Below B a (W.setCells g o vs)
  | [], _, _, h => h
  | v :: r, o, W, h => setCells_below g hg r (o + 1) _ (h.setCell hg v)

theorem RowB.there {B g n : Nat} {W : World} (h : RowB B g n W) {k : Nat} (hk : k < n) : W.there g (k * 34) 34 := by
  obtain ⟨_, cur, hg, hs⟩ := h
  intro j hj
  refine ⟨?_, frozen_of_row W _ _ _ _ hg⟩
  rw [cell_of_row _ _ _ _ _ _ hg, Array.getElem?_eq_getElem (by omega)]
  rfl
theorem RowB.put {B g n : Nat} {W : World} (h : RowB B g n W) (o : Nat) (vs : List Value) : RowB B g n (W.setCells g o vs) := by
  obtain ⟨h0, cur, hg, hs⟩ := h
  obtain ⟨c, hc, hs'⟩ := setCells_heap g vs o W cur 32 hg
  exact ⟨h0, c, hc, by omega⟩
theorem RowB.lt {B g n : Nat} {W : World} (h : RowB B g n W) : g < W.heap.size := by
  obtain ⟨_, cur, hg, _⟩ := h
  exact (Array.getElem?_eq_some_iff.1 hg).1

/-- The chunks laid so far. -/
def FillB (B : Nat) (W : World) (a1 : Option Addr) (n : Nat) (l : List Ck) : Prop :=
  (∀ c ∈ l, c.hs.length = 32) ∧ ((a1 = none ∧ n = 0) ∨ ∃ g, a1 = some ⟨g, 0, none⟩ ∧ RowB B g n W ∧ ∀ j (h : j < l.length), W.rangeAt g (j * 34) l[j].cells)

theorem Ck.len34 (c : Ck) (h : c.hs.length = 32) : c.cells.length = 34 := by simp [Ck.cells, h]

theorem fill_put {B g n : Nat} {W : World} {l : List Ck} (h32 : ∀ c ∈ l, c.hs.length = 32) (hrow : RowB B g n W) (hr : ∀ j (h : j < l.length), W.rangeAt g (j * 34) l[j].cells) (c : Ck) (hc : c.hs.length = 32) (hk : l.length < n) :
    FillB B (W.setCells g (l.length * 34) c.cells) (some ⟨g, 0, none⟩) n (l ++ [c]) := by
  refine ⟨?_, .inr ⟨g, rfl, hrow.put _ _, ?_⟩⟩
  · intro d hd
    rcases List.mem_append.1 hd with h | h
    · exact h32 d h
    · simp at h; subst h; exact hc
  · intro j hj
    by_cases e : j < l.length
    · rw [List.getElem_append_left e]
      refine World.rangeAt_setCells_apart (hr j e) _ _ _ (.inr (.inl ?_))
      rw [Ck.len34 _ (h32 _ (List.getElem_mem e))]; omega
    · have e' : j = l.length := by simp at hj; omega
      subst e'
      rw [List.getElem_append_right (Nat.le_refl _)]
      simp only [Nat.sub_self, List.getElem_cons_zero]
      exact World.rangeAt_setCells_same _ _ _ _ (by rw [Ck.len34 c hc]; exact hrow.there hk)

theorem fill_done {B n : Nat} {W : World} {a1 : Option Addr} {l : List Ck} (h : FillB B W a1 n l) (hl : l.length = n) : CksB B W a1 n l := by
  obtain ⟨h32, ⟨rfl, rfl⟩ | ⟨g, rfl, hrow, hr⟩⟩ := h
  · exact ⟨hl.symm, h32, .inl ⟨rfl, List.length_eq_zero_iff.1 hl⟩⟩
  · exact ⟨hl.symm, h32, .inr ⟨g, rfl, hrow.1, hrow.lt, hr⟩⟩

theorem FillB.man {B : Nat} {W : World} {a1 : Option Addr} {n : Nat} {l : List Ck} (h : FillB B W a1 n l) (j : Nat) (u : Value) : FillB B (W.setCell ⟨B + 1, j, none⟩ u) a1 n l := by
  obtain ⟨h32, h | ⟨g, rfl, ⟨hg0, cur, hg, hs⟩, hr⟩⟩ := h
  · exact ⟨h32, .inl h⟩
  · refine ⟨h32, .inr ⟨g, rfl, ⟨hg0, cur, ?_, hs⟩, ?_⟩⟩
    · rw [Below.heap_setCell _ _ _ _ (by simp; omega)]; exact hg
    · intro j hj i v hv
      rw [World.cell?_of_block (w := W) (Below.heap_setCell _ _ _ _ (by simp; omega))]
      exact hr j hj i v hv

theorem ManB.cells {B g : Nat} {W : World} {id : ByteArray} {sz cs : Int} {sv : Value} {comp : Bool} {hv : Int} (h : ManB B W id sz cs sv comp hv) (hg : B + 2 ≤ g) (o : Nat) (vs : List Value) : ManB B (W.setCells g o vs) id sz cs sv comp hv := by
  unfold ManB; rw [setCells_other g vs o W (B + 1) (by omega)]; exact h

theorem S3_end {w W : World} {a1 : Option Addr} {n : Nat} {id1 : ByteArray} {comp : Bool} {hv sz cs : Int} {l : List Ck} (hF : FillB w.heap.size W a1 n l) (hM : ManB w.heap.size W id1 0 0 (.slice none 0 0) comp hv) (hbel : Below w.heap.size w W) (hl : l.length = n)
    (w1 : (Lit.int .i64 sz).wf = true) (w2 : (Lit.int .i64 cs).wf = true) :
    S3 w a1 n id1 comp hv ((W.setCell ⟨w.heap.size + 1, 1, none⟩ (.int .i64 sz)).setCell ⟨w.heap.size + 1, 2, none⟩ (.int .i64 cs)) := by
  have h1 := hM.put 1 (.int .i64 sz)
  have h2 : ((W.setCell ⟨w.heap.size + 1, 1, none⟩ (.int .i64 sz)).setCell ⟨w.heap.size + 1, 2, none⟩ (.int .i64 cs)).heap[w.heap.size + 1]? = _ := heap_setCell_same _ _ _ _ _ _ h1
  exact ⟨sz, cs, l, w1, w2, h2, fill_done ((hF.man 1 _).man 2 _) hl, (hbel.setCell (by simp) _).setCell (by simp) _⟩

theorem build32 (o l : Int) (hs : List UInt8) (hl : hs.length = 32) (w : World) :
    (Instr.build 32 #[(0, .int .i64 o), (1, .int .i64 l), (2, .agg (hs.map cell).toArray)]).run Ybaf.prog w = .ok (.agg (Ck.mk o l hs).cells.toArray) w := by
  match hs, hl with
  | [a0, a1, a2, a3, a4, a5, a6, a7, a8, a9, b0, b1, b2, b3, b4, b5, b6, b7, b8, b9, c0, c1, c2, c3, c4, c5, c6, c7, c8, c9, d0, d1], _ => show _ = _; kernel_rfl

/-- How the walk spells a chunk that is built. -/
theorem fold32 (o l : Int) (hs : List UInt8) (hl : hs.length = 32) :
    List.foldl (fun (cs : Array Value) (x : Value × Nat) => cs.setIfInBounds (2 + x.snd) x.fst) #[.int .i64 o, .int .i64 l, .int .u8 0, .int .u8 0, .int .u8 0, .int .u8 0, .int .u8 0, .int .u8 0, .int .u8 0, .int .u8 0, .int .u8 0, .int .u8 0, .int .u8 0, .int .u8 0, .int .u8 0, .int .u8 0, .int .u8 0, .int .u8 0, .int .u8 0, .int .u8 0, .int .u8 0, .int .u8 0, .int .u8 0, .int .u8 0, .int .u8 0, .int .u8 0, .int .u8 0, .int .u8 0, .int .u8 0, .int .u8 0, .int .u8 0, .int .u8 0, .int .u8 0, .int .u8 0] (List.map cell hs).zipIdx = (Ck.mk o l hs).cells.toArray := by
  match hs, hl with
  | [a0, a1, a2, a3, a4, a5, a6, a7, a8, a9, b0, b1, b2, b3, b4, b5, b6, b7, b8, b9, c0, c1, c2, c3, c4, c5, c6, c7, c8, c9, d0, d1], _ => show _ = _; kernel_rfl

theorem storeCells_there (g o : Nat) (vs : List Value) (h1 : ∀ v ∈ vs, v.oneCell' = true) (W : World) (ht : W.there g o vs.length) : (storeCells ⟨g, o, none⟩ vs).run Ybaf.prog W = .ok () (W.setCells g o vs) := by
  have := run_storeCells_cells (P := Ybaf.prog) g o vs 0 W (fun j hj => by simpa using (ht j hj).1) (fun j hj => by simpa using (ht j hj).2) h1
  simpa [storeCells] using this

theorem Ck.ones (c : Ck) : ∀ v ∈ c.cells, v.oneCell' = true := fun v hv => by
  simp [Ck.cells] at hv
  rcases hv with rfl | rfl | ⟨u, _, rfl⟩ <;> rfl

theorem store_ck (g k : Nat) (c : Ck) (hc : c.hs.length = 32) (W : World) (ht : W.there g (k * 34) 34) : (storeCells ⟨g, k * 34, none⟩ c.cells).run Ybaf.prog W = .ok () (W.setCells g (k * 34) c.cells) :=
  storeCells_there g _ c.cells c.ones W (by rw [Ck.len34 c hc]; exact ht)

theorem k_ne (cs : Int) : ¬ IntKind.u64.wrap (wrap64 (1 + wrap64 ((IntKind.u64.wrap cs).tmod 1000))) = 0 := by
  have h0 : 0 ≤ IntKind.u64.wrap cs := by rw [IntKind.wrap_u64]; omega
  have e : (IntKind.u64.wrap cs).tmod 1000 = (IntKind.u64.wrap cs) % 1000 := Int.tmod_eq_emod_of_nonneg h0
  rw [e, IntKind.wrap_u64]
  unfold wrap64
  omega

theorem or1_all : ∀ n : Fin 256, bits BinOp.or IntKind.u8 (n.val : Int) 1 = ((UInt8.ofNat n.val ||| 1).toNat : Int) := by decide +kernel
theorem or1 (h : UInt8) : bits BinOp.or IntKind.u8 (h.toNat : Int) 1 = ((h ||| 1).toNat : Int) := by
  have := or1_all ⟨h.toNat, h.toNat_lt⟩
  simpa using this

/-- What a round of the second and third shape needs to know. -/
structure Mode1 (B g n k : Nat) (w wr : World) (l : List Ck) (id1 : ByteArray) (comp : Bool) (hv : Int) (h0 : UInt8) (CH CH2 : List Value) (hs' : List UInt8) : Prop where
  hset : CH.set 0 (.int .u8 (bits BinOp.or IntKind.u8 (h0.toNat : Int) 1)) = CH2
  hr : (wr.alloc (.cells CH2.toArray 22)).rangeAt wr.heap.size 0 CH2
  hi : (Ybaf.prog.info? 22).map (·.size) = some CH2.length
  hl2 : CH2.length = 32
  hfold : ∀ o L, List.foldl (fun (cs : Array Value) (x : Value × Nat) => cs.setIfInBounds (2 + x.snd) x.fst) #[.int .i64 o, .int .i64 L, .int .u8 0, .int .u8 0, .int .u8 0, .int .u8 0, .int .u8 0, .int .u8 0, .int .u8 0, .int .u8 0, .int .u8 0, .int .u8 0, .int .u8 0, .int .u8 0, .int .u8 0, .int .u8 0, .int .u8 0, .int .u8 0, .int .u8 0, .int .u8 0, .int .u8 0, .int .u8 0, .int .u8 0, .int .u8 0, .int .u8 0, .int .u8 0, .int .u8 0, .int .u8 0, .int .u8 0, .int .u8 0, .int .u8 0, .int .u8 0, .int .u8 0, .int .u8 0] CH2.zipIdx = (Ck.mk o L hs').cells.toArray
  hlen : ∀ o L, (Ck.mk o L hs').cells.length = 34
  hst : ∀ o L, (storeCells ⟨g, k * 34, none⟩ (Ck.mk o L hs').cells).run Ybaf.prog (wr.alloc (.cells CH2.toArray 22)) = .ok () ((wr.alloc (.cells CH2.toArray 22)).setCells g (k * 34) (Ck.mk o L hs').cells)
  fin : Hid (∀ o L, FillB B ((wr.alloc (.cells CH2.toArray 22)).setCells g (k * 34) (Ck.mk o L hs').cells) (some ⟨g, 0, none⟩) n (l ++ [Ck.mk o L hs']) ∧ ManB B ((wr.alloc (.cells CH2.toArray 22)).setCells g (k * 34) (Ck.mk o L hs').cells) id1 0 0 (.slice none 0 0) comp hv ∧ Below B w ((wr.alloc (.cells CH2.toArray 22)).setCells g (k * 34) (Ck.mk o L hs').cells))

theorem mode1 {g n k : Nat} {w wr : World} {l : List Ck} {id1 : ByteArray} {comp : Bool} {hv : Int} (h0 : UInt8) (tl : List UInt8) (h31 : tl.length = 31) (h32 : ∀ c ∈ l, c.hs.length = 32) (hlk : l.length = k) (hlt : k < n)
    (hrow : RowB w.heap.size g n wr) (hrl : ∀ j (h : j < l.length), wr.rangeAt g (j * 34) l[j].cells) (hM : ManB w.heap.size wr id1 0 0 (.slice none 0 0) comp hv) (hbel : Below w.heap.size w wr) :
    Mode1 w.heap.size g n k w wr l id1 comp hv h0 ((h0 :: tl).map cell) (((h0 ||| 1) :: tl).map cell) ((h0 ||| 1) :: tl) := by
  have hl' : ((h0 ||| 1) :: tl).length = 32 := by simp [h31]
  have hrow1 : RowB w.heap.size g n (wr.alloc (.cells (((h0 ||| 1) :: tl).map cell).toArray 22)) := by
    obtain ⟨a, cur, hg, hs⟩ := hrow
    exact ⟨a, cur, by rw [Below.heap_alloc _ _ _ ((Array.getElem?_eq_some_iff.1 hg).1)]; exact hg, hs⟩
  refine ⟨?_, range_whole wr _ 22, ?_, by rw [List.length_map, hl'], fun o L => fold32 o L _ hl', fun o L => Ck.len34 _ hl', fun o L => store_ck g k _ hl' _ (hrow1.there hlt), fun o L => ⟨?_, ?_, ?_⟩⟩
  · rw [or1]; rfl
  · rw [List.length_map, hl']; kernel_rfl
  · subst hlk
    exact fill_put h32 hrow1 (fun j h => World.rangeAt_alloc (hrl j h) _) _ hl' hlt
  · refine ManB.cells ?_ hrow.1 _ _
    exact hM.below ((Below.refl _ _).alloc (Nat.le_refl _) _)
  · exact setCells_below g (by have := hrow.1; omega) _ _ _ (hbel.alloc hbel.size _)

/-- What the law is told of its chunks. -/
def ArgAt (w : World) (a : Option Addr) (n : Nat) (cks : List Ck) : Prop :=
  cks.length = n ∧ (∀ c ∈ cks, c.hs.length = 32 ∧ (Lit.int .i64 c.off).wf = true ∧ (Lit.int .i64 c.len).wf = true) ∧ ((a = none ∧ n = 0) ∨ ∃ x, a = some x) ∧
  (0 < n → ∃ b off, a = some ⟨b, off, none⟩ ∧ b < w.heap.size ∧ ∀ k (h : k < cks.length), w.rangeAt b (off + k * 34) cks[k].cells)
end Go.Proofs.YbulkedksFmt
