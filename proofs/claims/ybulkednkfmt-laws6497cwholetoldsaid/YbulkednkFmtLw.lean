import Derived.Test.YbulkednkFmtParse
import Derived.Maps.OwnIn
namespace Go.Proofs.YbulkednkFmt
open Go.RowKit Go.Maps
set_option linter.unusedVariables false

def argV (M N : Nat → Int) (S : Nat → ByteArray) (i : Nat) : Value := .agg #[.int .u8 (M i), .int .i64 (N i), .string (S i)]
def valsL (M N : Nat → Int) (S : Nat → ByteArray) : List Value := [.int .u8 (M 0), .int .i64 (N 0), .string (S 0), .int .u8 (M 1), .int .i64 (N 1), .string (S 1), .int .u8 (M 2), .int .i64 (N 2), .string (S 2), .int .u8 (M 3), .int .i64 (N 3), .string (S 3), .int .u8 (M 4), .int .i64 (N 4), .string (S 4), .int .u8 (M 5), .int .i64 (N 5), .string (S 5), .int .u8 (M 6), .int .i64 (N 6), .string (S 6), .int .u8 (M 7), .int .i64 (N 7), .string (S 7)]
theorem valsL_at (M N : Nat → Int) (S : Nat → ByteArray) {i : Nat} (hi : i < 8) : (valsL M N S)[i * 3]? = some (.int .u8 (M i)) ∧ (valsL M N S)[i * 3 + 1]? = some (.int .i64 (N i)) ∧ (valsL M N S)[i * 3 + 2]? = some (.string (S i)) := by
  match i, hi with
  | 0, _ => exact ⟨rfl, rfl, rfl⟩
  | 1, _ => exact ⟨rfl, rfl, rfl⟩
  | 2, _ => exact ⟨rfl, rfl, rfl⟩
  | 3, _ => exact ⟨rfl, rfl, rfl⟩
  | 4, _ => exact ⟨rfl, rfl, rfl⟩
  | 5, _ => exact ⟨rfl, rfl, rfl⟩
  | 6, _ => exact ⟨rfl, rfl, rfl⟩
  | 7, _ => exact ⟨rfl, rfl, rfl⟩
/-- The law's array of values. -/
def ValsAt (W : World) (vb : Nat) (M N : Nat → Int) (S : Nat → ByteArray) : Prop := W.heap[vb]? = some (.cells (valsL M N S).toArray 24 (0, 0))
theorem ValsAt.cells {W : World} {vb : Nat} {M N : Nat → Int} {S : Nat → ByteArray} (h : ValsAt W vb M N S) {i : Nat} (hi : i < 8) : W.cell? ⟨vb, i * 3, none⟩ = some (.int .u8 (M i)) ∧ W.cell? ⟨vb, i * 3 + 1, none⟩ = some (.int .i64 (N i)) ∧ W.cell? ⟨vb, i * 3 + 2, none⟩ = some (.string (S i)) := by
  obtain ⟨h0, h1, h2⟩ := valsL_at M N S hi
  refine ⟨?_, ?_, ?_⟩
  · rw [cell_of_row _ _ _ _ _ _ h]; simpa using h0
  · rw [cell_of_row _ _ _ _ _ _ h]; simpa using h1
  · rw [cell_of_row _ _ _ _ _ _ h]; simpa using h2
def tot (S : Nat → ByteArray) : Nat → Nat
  | 0 => 0
  | k + 1 => tot S k + (S k).size

theorem wpList_build_as {P : Program} {ops : Array Oper} {rest : List Oper} {o : Oper} {a : Act} {w : World} {Q : Exit → Act → World → Prop} (hg : o.guard = none) (t : TypeId) (parts : Array (Nat × Operand)) (ho : o.op = .build t parts)
    (vals : Array (Nat × Value)) (hv : (parts.toList.map fun (i, x) => (i, a.eval x)) = vals.toList) (cells : Array Value) (hrun : ∀ w, (Instr.build t vals).run P w = .ok (.agg cells) w)
    (h : wpList P ops Q rest (a.put o.dst (.agg cells)) w) : wpList P ops Q (o :: rest) a w :=
  wpList_plain hg fun K' hK' => by
    have hr : (Instr.build t (parts.map fun (i, x) => (i, a.eval x))).run P w = .ok (.agg cells) w := by
      have e : (parts.map fun (i, x) => (i, a.eval x)) = vals := by
        apply Array.toList_inj.1
        rw [Array.toList_map]; exact hv
      rw [e]; exact hrun w
    unfold Oper.wp execOp
    simp only [ho, Sem.run_bind, hr, Result.andThen_ok, Sem.run_pure]
    exact hK' _ _ h
theorem build24 (M N : Nat → Int) (S : Nat → ByteArray) (w : World) : (Instr.build 24 #[(0, argV M N S 0), (1, argV M N S 1), (2, argV M N S 2), (3, argV M N S 3), (4, argV M N S 4), (5, argV M N S 5), (6, argV M N S 6), (7, argV M N S 7)]).run Ybaf.prog w = .ok (.agg (valsL M N S).toArray) w := run_build w 24 _ _ (by kernel_rfl)
theorem s24 : (Ybaf.prog.info? 24).map (·.size) = some 24 := by kernel_rfl
theorem one24 (M N : Nat → Int) (S : Nat → ByteArray) : ((valsL M N S).toArray).all (·.oneCell') = true := by
  rw [Array.all_eq_true_iff_forall_mem]
  intro x hx
  simp only [valsL, List.mem_toArray, List.mem_cons, List.not_mem_nil, or_false] at hx
  rcases hx with rfl | rfl | rfl | rfl | rfl | rfl | rfl | rfl | rfl | rfl | rfl | rfl | rfl | rfl | rfl | rfl | rfl | rfl | rfl | rfl | rfl | rfl | rfl | rfl <;> rfl

/-- Eight blocks made. -/
theorem boxes (w : World) (o0 o1 o2 o3 o4 o5 o6 o7 : Obj) (W : World) (hW : ((((((((w.alloc o0).alloc o1).alloc o2).alloc o3).alloc o4).alloc o5).alloc o6).alloc o7) = W) : (W.heap[w.heap.size]? = some o0 ∧ W.heap[w.heap.size + 1]? = some o1 ∧ W.heap[w.heap.size + 1 + 1]? = some o2 ∧ W.heap[w.heap.size + 1 + 1 + 1]? = some o3 ∧ W.heap[w.heap.size + 1 + 1 + 1 + 1]? = some o4 ∧ W.heap[w.heap.size + 1 + 1 + 1 + 1 + 1]? = some o5 ∧ W.heap[w.heap.size + 1 + 1 + 1 + 1 + 1 + 1]? = some o6 ∧ W.heap[w.heap.size + 1 + 1 + 1 + 1 + 1 + 1 + 1]? = some o7) ∧ W.heap.size = w.heap.size + 8 ∧ Below w.heap.size w W := by
  subst hW
  have hb : Below w.heap.size w ((((((((w.alloc o0).alloc o1).alloc o2).alloc o3).alloc o4).alloc o5).alloc o6).alloc o7) := ((((((((Below.refl w.heap.size w).alloc (by simp) o0).alloc (by simp; try omega) o1).alloc (by simp; try omega) o2).alloc (by simp; try omega) o3).alloc (by simp; try omega) o4).alloc (by simp; try omega) o5).alloc (by simp; try omega) o6).alloc (by simp; try omega) o7
  refine ⟨?_, by simp, hb⟩
  refine ⟨?_, ?_, ?_, ?_, ?_, ?_, ?_, ?_⟩
  · rw [Below.heap_alloc _ _ _ (by simp; try omega), Below.heap_alloc _ _ _ (by simp; try omega), Below.heap_alloc _ _ _ (by simp; try omega), Below.heap_alloc _ _ _ (by simp; try omega), Below.heap_alloc _ _ _ (by simp; try omega), Below.heap_alloc _ _ _ (by simp; try omega), Below.heap_alloc _ _ _ (by simp; try omega)]; exact heap_at _ _ (by simp; try omega)
  · rw [Below.heap_alloc _ _ _ (by simp; try omega), Below.heap_alloc _ _ _ (by simp; try omega), Below.heap_alloc _ _ _ (by simp; try omega), Below.heap_alloc _ _ _ (by simp; try omega), Below.heap_alloc _ _ _ (by simp; try omega), Below.heap_alloc _ _ _ (by simp; try omega)]; exact heap_at _ _ (by simp; try omega)
  · rw [Below.heap_alloc _ _ _ (by simp; try omega), Below.heap_alloc _ _ _ (by simp; try omega), Below.heap_alloc _ _ _ (by simp; try omega), Below.heap_alloc _ _ _ (by simp; try omega), Below.heap_alloc _ _ _ (by simp; try omega)]; exact heap_at _ _ (by simp; try omega)
  · rw [Below.heap_alloc _ _ _ (by simp; try omega), Below.heap_alloc _ _ _ (by simp; try omega), Below.heap_alloc _ _ _ (by simp; try omega), Below.heap_alloc _ _ _ (by simp; try omega)]; exact heap_at _ _ (by simp; try omega)
  · rw [Below.heap_alloc _ _ _ (by simp; try omega), Below.heap_alloc _ _ _ (by simp; try omega), Below.heap_alloc _ _ _ (by simp; try omega)]; exact heap_at _ _ (by simp; try omega)
  · rw [Below.heap_alloc _ _ _ (by simp; try omega), Below.heap_alloc _ _ _ (by simp; try omega)]; exact heap_at _ _ (by simp; try omega)
  · rw [Below.heap_alloc _ _ _ (by simp; try omega)]; exact heap_at _ _ (by simp; try omega)
  · exact heap_at _ _ (by simp; try omega)

/-! ### the map of the parameters -/
abbrev nilS : Value := .slice none 0 0
def kl (j : Nat) : Lit := .string (nm j).data.toList
theorem kl_ne {i j : Nat} (hi : i < 8) (hj : j < 8) (h : j ≠ i) : kl j ≠ kl i := by
  have : ∀ i j : Fin 8, j ≠ i → (nm j.val).data.toList ≠ (nm i.val).data.toList := by decide
  intro e
  have e' : (nm j).data.toList = (nm i).data.toList := by injection e
  exact this ⟨i, hi⟩ ⟨j, hj⟩ (fun e => h (by injection e)) e'
/-- The first i parameters are laid. -/
def Mp (W : World) (mb i : Nat) (T : Nat → ByteArray) : Prop := ∃ n D, n ≤ i ∧ W.ownsMap Ybaf.prog 9 hv mb n D ∧ (∀ j, j < i → ∃ v, D.atKey (kl j) (.held nilS) = .held v ∧ TextAt W v (T j)) ∧ (∀ j, i ≤ j → j < 8 → D.atKey (kl j) (.held nilS) = .held nilS)
theorem Mp.start (w : World) (T : Nat → ByteArray) : Mp (w.alloc (.map #[] 0)) w.heap.size 0 T := ⟨0, .map [], Nat.le_refl _, World.ownsMap_made _ _ _ _, fun j hj => by omega, fun j _ _ => rfl⟩
theorem ownsMap_later {w W : World} {b n : Nat} {D : DataW Value} (h : w.ownsMap Ybaf.prog 9 hv b n D) (hb : Below w.heap.size w W) : W.ownsMap Ybaf.prog 9 hv b n D := by
  obtain ⟨es, clock, hb', F, hs, hD⟩ := h
  exact ⟨es, clock, by rw [hb.block b (Array.getElem?_eq_some_iff.1 hb').1]; exact hb', F, hs, hD⟩
theorem Mp.later {W W' : World} {mb i : Nat} {T : Nat → ByteArray} (h : Mp W mb i T) (hb : Below W.heap.size W W') : Mp W' mb i T := by
  obtain ⟨n, D, hn, ho, h1, h2⟩ := h
  exact ⟨n, D, hn, ownsMap_later ho hb, fun j hj => by obtain ⟨v, e, ht⟩ := h1 j hj; exact ⟨v, e, ht.later hb⟩, h2⟩
theorem Mp.skip {W : World} {mb i : Nat} {T : Nat → ByteArray} (h : Mp W mb i T) (hi : i < 8) (ht : T i = ByteArray.empty) : Mp W mb (i + 1) T := by
  obtain ⟨n, D, hn, ho, h1, h2⟩ := h
  refine ⟨n, D, by omega, ho, fun j hj => ?_, fun j hj => h2 j (by omega)⟩
  by_cases e : j = i
  · subst e; exact ⟨nilS, h2 j (Nat.le_refl _) hi, none, 0, 0, rfl, by omega, .inl ⟨rfl, ht⟩⟩
  · exact h1 j (by omega)
theorem TextAt.turned {W W' : World} {v : Value} {t : ByteArray} {mb : Nat} (h : TextAt W v t) (hm : W.mapTurned W' mb) : TextAt W' v t := by
  obtain ⟨a, len, cap, rfl, hl, h | ⟨h0, b, rfl, hc⟩⟩ := h
  · exact ⟨a, len, cap, rfl, hl, .inl h⟩
  · refine ⟨_, len, cap, rfl, hl, .inr ⟨h0, b, rfl, ?_⟩⟩
    have hne : b ≠ mb := by
      rintro rfl
      obtain ⟨es, clock, _, _, he, _⟩ := hm
      simp [World.cell?, he] at hc
    have hlt := World.block_lt_of_cell? _ _ hc
    rw [World.cell?_of_block (w := W) (hm.grown.block b hlt (by simp; exact fun e => hne e))]; exact hc
theorem Mp.put {W W' : World} {mb i n : Nat} {T : Nat → ByteArray} {D : DataW Value} {v : Value} (hi : i < 8) (hn : n ≤ i) (ho : W'.ownsMap Ybaf.prog 9 hv mb (n + 1) (D.put (kl i) (.held v))) (hm : W.mapTurned W' mb) (hD : IsMap D)
    (h1 : ∀ j, j < i → ∃ v, D.atKey (kl j) (.held nilS) = .held v ∧ TextAt W v (T j)) (h2 : ∀ j, i ≤ j → j < 8 → D.atKey (kl j) (.held nilS) = .held nilS) (ht : TextAt W v (T i)) : Mp W' mb (i + 1) T := by
  refine ⟨n + 1, _, by omega, ho, fun j hj => ?_, fun j hj hj8 => ?_⟩
  · by_cases e : j = i
    · subst e; exact ⟨v, atKey_put_same hD (show WideAt.IsKeyLit (kl j) from trivial) _ _, ht.turned hm⟩
    · obtain ⟨u, e1, e2⟩ := h1 j (by omega)
      exact ⟨u, by rw [atKey_put_other (kl_ne hi (by omega) e)]; exact e1, e2.turned hm⟩
  · rw [atKey_put_other (kl_ne hi hj8 (by omega))]
    exact h2 j (by omega) hj8
theorem Mp.gets {W : World} {mb : Nat} {T : Nat → ByteArray} (h : Mp W mb 8 T) (hT : ∀ i, i < 8 → (T i).size ≤ 1048576) : Gets W mb T := fun i hi => by
  obtain ⟨n, D, _, ho, h1, _⟩ := h
  obtain ⟨v, e, ht⟩ := h1 i hi
  exact ⟨⟨n, D, v, ho, e, ht⟩, hT i hi⟩

def nmA : Array Value := #[.string ⟨#[113]⟩, .string ⟨#[119, 97, 108, 107, 101, 114, 115]⟩, .string ⟨#[116, 116, 108]⟩, .string ⟨#[103, 111, 97, 108]⟩, .string ⟨#[110, 117, 109, 98, 101, 114]⟩, .string ⟨#[101, 120, 97, 99, 116]⟩, .string ⟨#[101, 120, 97, 99, 116, 45, 119, 111, 114, 100, 115]⟩, .string ⟨#[104, 111, 108, 100, 45, 111, 117, 116]⟩]
theorem nm_cell {W : World} {nb : Nat} (h : W.heap[nb]? = some (.cells nmA 25 (0, 0))) {i : Nat} (hi : i < 8) : W.cell? ⟨nb, i, none⟩ = some (.string (nm i)) := by
  rw [cell_of_row _ _ _ _ _ _ h]
  match i, hi with
  | 0, _ => rfl
  | 1, _ => rfl
  | 2, _ => rfl
  | 3, _ => rfl
  | 4, _ => rfl
  | 5, _ => rfl
  | 6, _ => rfl
  | 7, _ => rfl
/-- The parameters' texts. -/
def TT (M N : Nat → Int) (S : Nat → ByteArray) (i : Nat) : ByteArray := textOf (M i) (N i) (S i) (decide (5 ≤ i))
/-- The map's making under way. -/
structure Lp (w W : World) (vb nb mb i : Nat) (M N : Nat → Int) (S : Nat → ByteArray) : Prop where
  bel : Below w.heap.size w W
  vals : ValsAt W vb M N S
  nms : W.heap[nb]? = some (.cells nmA 25 (0, 0))
  mp : Mp W mb i (TT M N S)
  hmb : w.heap.size ≤ mb
theorem Lp.later {w W W' : World} {vb nb mb i : Nat} {M N : Nat → Int} {S : Nat → ByteArray} (h : Lp w W vb nb mb i M N S) (hb : Below W.heap.size W W') : Lp w W' vb nb mb i M N S :=
  ⟨h.bel.trans (hb.mono h.bel.size), by unfold ValsAt; rw [hb.block _ (Array.getElem?_eq_some_iff.1 h.vals).1]; exact h.vals, by rw [hb.block _ (Array.getElem?_eq_some_iff.1 h.nms).1]; exact h.nms, h.mp.later hb, h.hmb⟩
theorem Lp.skip {w W : World} {vb nb mb i : Nat} {M N : Nat → Int} {S : Nat → ByteArray} (h : Lp w W vb nb mb i M N S) (hi : i < 8) (ht : TT M N S i = ByteArray.empty) : Lp w W vb nb mb (i + 1) M N S := ⟨h.bel, h.vals, h.nms, h.mp.skip hi ht, h.hmb⟩
theorem Lp.put {w W W' : World} {vb nb mb i n : Nat} {M N : Nat → Int} {S : Nat → ByteArray} {D : DataW Value} {v : Value} (h : Lp w W vb nb mb i M N S) (hi : i < 8) (hn : n ≤ i) (ho0 : W.ownsMap Ybaf.prog 9 hv mb n D) (ho : W'.ownsMap Ybaf.prog 9 hv mb (n + 1) (D.put (kl i) (.held v))) (hm : W.mapTurned W' mb)
    (h1 : ∀ j, j < i → ∃ v, D.atKey (kl j) (.held nilS) = .held v ∧ TextAt W v (TT M N S j)) (h2 : ∀ j, i ≤ j → j < 8 → D.atKey (kl j) (.held nilS) = .held nilS) (ht : TextAt W v (TT M N S i)) : Lp w W' vb nb mb (i + 1) M N S := by
  have hmb : ∃ es c, W.heap[mb]? = some (.map es c) := by obtain ⟨es, c, _, _, he, _⟩ := hm; exact ⟨es, c, he⟩
  obtain ⟨es, c, he⟩ := hmb
  have hvn : vb ≠ mb := by rintro rfl; have := h.vals; unfold ValsAt at this; rw [he] at this; cases this
  have hnn : nb ≠ mb := by rintro rfl; have := h.nms; rw [he] at this; cases this
  refine ⟨h.bel.grown hm.grown h.bel.size (fun k e => by injection e with e; subst e; exact h.hmb), ?_, ?_, Mp.put hi hn ho hm ho0.isMap h1 h2 ht, h.hmb⟩
  · unfold ValsAt; rw [hm.grown.block _ (Array.getElem?_eq_some_iff.1 h.vals).1 (by simpa using hvn)]; exact h.vals
  · rw [hm.grown.block _ (Array.getElem?_eq_some_iff.1 h.nms).1 (by simpa using hnn)]; exact h.nms

/-- Behind parseSearch. -/
structure Rp (w W : World) (vb gb wb : Nat) (M N : Nat → Int) (S : Nat → ByteArray) (A B : Array Value) : Prop where
  bel : Below w.heap.size w W
  vals : ValsAt W vb M N S
  got : W.heap[gb]? = some (.cells A 32 (0, 0))
  want : W.heap[wb]? = some (.cells B 32 (0, 0))
  hgw : gb ≠ wb
  hvw : vb ≠ wb
  hwb : w.heap.size ≤ wb
theorem Rp.later {w W W' : World} {vb gb wb : Nat} {M N : Nat → Int} {S : Nat → ByteArray} {A B : Array Value} (h : Rp w W vb gb wb M N S A B) (hb : Below W.heap.size W W') : Rp w W' vb gb wb M N S A B :=
  ⟨h.bel.trans (hb.mono h.bel.size), by unfold ValsAt; rw [hb.block _ (Array.getElem?_eq_some_iff.1 h.vals).1]; exact h.vals, by rw [hb.block _ (Array.getElem?_eq_some_iff.1 h.got).1]; exact h.got, by rw [hb.block _ (Array.getElem?_eq_some_iff.1 h.want).1]; exact h.want, h.hgw, h.hvw, h.hwb⟩
theorem Rp.set {w W : World} {vb gb wb : Nat} {M N : Nat → Int} {S : Nat → ByteArray} {A B : Array Value} (h : Rp w W vb gb wb M N S A B) (o : Nat) (v : Value) : Rp w (W.setCell ⟨wb, o, none⟩ v) vb gb wb M N S A (B.setIfInBounds o v) := by
  refine ⟨h.bel.setCell (p := ⟨wb, o, none⟩) h.hwb v, ?_, ?_, heap_setCell_same W _ o _ _ _ h.want, h.hgw, h.hvw, h.hwb⟩
  · unfold ValsAt; rw [Below.heap_setCell _ _ _ _ (by simpa using h.hvw)]; exact h.vals
  · rw [Below.heap_setCell _ _ _ _ (by simpa using h.hgw)]; exact h.got
theorem Rp.cell {w W : World} {vb gb wb : Nat} {M N : Nat → Int} {S : Nat → ByteArray} {A B : Array Value} (h : Rp w W vb gb wb M N S A B) (hB : B.size = 9) (o : Nat) (ho : o < 9) : ∃ u, W.cell? ⟨wb, o, none⟩ = some u := by
  rw [cell_of_row _ _ _ _ _ _ h.want]
  exact ⟨_, Array.getElem?_eq_getElem (by omega)⟩
theorem Rp.free {w W : World} {vb gb wb : Nat} {M N : Nat → Int} {S : Nat → ByteArray} {A B : Array Value} (h : Rp w W vb gb wb M N S A B) (o : Nat) : W.frozen? ⟨wb, o, none⟩ = false := frozen_of_row W _ _ _ _ h.want

theorem cS_yes {A : Array Value} {o : Nat} {t : ByteArray} {k : Nat} (h : ¬ t = ByteArray.empty) (e : numOf t.data.toList = some k) (hk : 1 ≤ k) : cStep A o t = (A.setIfInBounds o (.int .i64 k), false) := by
  rw [cStep, if_neg h, e]
  show (if 1 ≤ k then _ else _) = _
  rw [if_pos hk]
theorem cS_small {A : Array Value} {o : Nat} {t : ByteArray} {k : Nat} (h : ¬ t = ByteArray.empty) (e : numOf t.data.toList = some k) (hk : ¬ 1 ≤ k) : cStep A o t = (A, true) := by
  rw [cStep, if_neg h, e]
  show (if 1 ≤ k then _ else _) = _
  rw [if_neg hk]
theorem cS_no {A : Array Value} {o : Nat} {t : ByteArray} (h : ¬ t = ByteArray.empty) (e : numOf t.data.toList = none) : cStep A o t = (A, true) := by
  rw [cStep, if_neg h, e]
theorem nS_yes {A : Array Value} {t : ByteArray} {k : Nat} (h : ¬ t = ByteArray.empty) (e : numOf t.data.toList = some k) : nStep A t = ((A.setIfInBounds 6 (.int .i64 k)).setIfInBounds 7 (.bool true), false) := by
  rw [nStep, if_neg h, e]
theorem nS_no {A : Array Value} {t : ByteArray} (h : ¬ t = ByteArray.empty) (e : numOf t.data.toList = none) : nStep A t = (A, true) := by
  rw [nStep, if_neg h, e]
theorem numOf_lt {l : List UInt8} {k : Nat} (h : numOf l = some k) : (k : Int) ≤ 9223372036854775807 := by
  rw [numOf_eq] at h
  cases hq : Lib.atoiAll l with
  | ok v =>
    rw [hq] at h
    have hb := Lib.atoiAll_bounds hq
    simp only [okNat] at h
    split at h
    · injection h with h
      omega
    · cases h
  | _ => rw [hq] at h; cases h
theorem TT_size {M N : Nat → Int} {S : Nat → ByteArray} (hN : ∀ i, i < 8 → -9223372036854775808 ≤ N i ∧ N i ≤ 9223372036854775807) (hS : ∀ i, i < 8 → (S i).size ≤ 1048576) : ∀ i, i < 8 → (TT M N S i).size ≤ 1048576 := fun i hi => textOf_size _ _ _ _ (hN i hi).1 (hN i hi).2 (hS i hi)

set_option maxRecDepth 100000 in
set_option maxHeartbeats 8000000 in
theorem law_any (M N : Nat → Int) (S : Nat → ByteArray) (w : World) (hM : ∀ i, i < 8 → 0 ≤ M i ∧ M i ≤ 255) (hN : ∀ i, i < 8 → -9223372036854775808 ≤ N i ∧ N i ≤ 9223372036854775807) (hS : ∀ i, i < 8 → (S i).size ≤ 140737488351232) (hL : LaidOk w) :
    Calls Ybaf.prog 3 #[argV M N S 0, argV M N S 1, argV M N S 2, argV M N S 3, argV M N S 4, argV M N S 5, argV M N S 6, argV M N S 7] w fun e w' => e = .returned (.bool true) ∧ Below w.heap.size w w' := by
  have HM := hide hM
  have HN := hide hN
  have HS := hide hS
  have HL := hide hL
  clear hM hN hS hL
  unfold argV
  go_enter Ybaf.func3, Ybaf.ntmps3
  go_upto_region 1 with fail
  obtain ⟨W0, hW0⟩ : ∃ W0, ((((((((w.alloc (Obj.cells #[.int .u8 (M 0), .int .i64 (N 0), .string (S 0)] 23)).alloc (Obj.cells #[.int .u8 (M 1), .int .i64 (N 1), .string (S 1)] 23)).alloc (Obj.cells #[.int .u8 (M 2), .int .i64 (N 2), .string (S 2)] 23)).alloc (Obj.cells #[.int .u8 (M 3), .int .i64 (N 3), .string (S 3)] 23)).alloc (Obj.cells #[.int .u8 (M 4), .int .i64 (N 4), .string (S 4)] 23)).alloc (Obj.cells #[.int .u8 (M 5), .int .i64 (N 5), .string (S 5)] 23)).alloc (Obj.cells #[.int .u8 (M 6), .int .i64 (N 6), .string (S 6)] 23)).alloc (Obj.cells #[.int .u8 (M 7), .int .i64 (N 7), .string (S 7)] 23)) = W0 := ⟨_, rfl⟩
  obtain ⟨⟨r0, r1, r2, r3, r4, r5, r6, r7⟩, hs0, hb0⟩ := boxes w _ _ _ _ _ _ _ _ W0 hW0
  have p0 : W0.cell? ⟨w.heap.size, 0, none⟩ = some (.int .u8 (M 0)) := by rw [cell_of_row _ _ _ _ _ _ r0]; rfl
  have q0 : W0.cell? ⟨w.heap.size, 1, none⟩ = some (.int .i64 (N 0)) := by rw [cell_of_row _ _ _ _ _ _ r0]; rfl
  have t0 : W0.cell? ⟨w.heap.size, 2, none⟩ = some (.string (S 0)) := by rw [cell_of_row _ _ _ _ _ _ r0]; rfl
  have p1 : W0.cell? ⟨w.heap.size + 1, 0, none⟩ = some (.int .u8 (M 1)) := by rw [cell_of_row _ _ _ _ _ _ r1]; rfl
  have q1 : W0.cell? ⟨w.heap.size + 1, 1, none⟩ = some (.int .i64 (N 1)) := by rw [cell_of_row _ _ _ _ _ _ r1]; rfl
  have t1 : W0.cell? ⟨w.heap.size + 1, 2, none⟩ = some (.string (S 1)) := by rw [cell_of_row _ _ _ _ _ _ r1]; rfl
  have p2 : W0.cell? ⟨w.heap.size + 1 + 1, 0, none⟩ = some (.int .u8 (M 2)) := by rw [cell_of_row _ _ _ _ _ _ r2]; rfl
  have q2 : W0.cell? ⟨w.heap.size + 1 + 1, 1, none⟩ = some (.int .i64 (N 2)) := by rw [cell_of_row _ _ _ _ _ _ r2]; rfl
  have t2 : W0.cell? ⟨w.heap.size + 1 + 1, 2, none⟩ = some (.string (S 2)) := by rw [cell_of_row _ _ _ _ _ _ r2]; rfl
  have p3 : W0.cell? ⟨w.heap.size + 1 + 1 + 1, 0, none⟩ = some (.int .u8 (M 3)) := by rw [cell_of_row _ _ _ _ _ _ r3]; rfl
  have q3 : W0.cell? ⟨w.heap.size + 1 + 1 + 1, 1, none⟩ = some (.int .i64 (N 3)) := by rw [cell_of_row _ _ _ _ _ _ r3]; rfl
  have t3 : W0.cell? ⟨w.heap.size + 1 + 1 + 1, 2, none⟩ = some (.string (S 3)) := by rw [cell_of_row _ _ _ _ _ _ r3]; rfl
  have p4 : W0.cell? ⟨w.heap.size + 1 + 1 + 1 + 1, 0, none⟩ = some (.int .u8 (M 4)) := by rw [cell_of_row _ _ _ _ _ _ r4]; rfl
  have q4 : W0.cell? ⟨w.heap.size + 1 + 1 + 1 + 1, 1, none⟩ = some (.int .i64 (N 4)) := by rw [cell_of_row _ _ _ _ _ _ r4]; rfl
  have t4 : W0.cell? ⟨w.heap.size + 1 + 1 + 1 + 1, 2, none⟩ = some (.string (S 4)) := by rw [cell_of_row _ _ _ _ _ _ r4]; rfl
  have p5 : W0.cell? ⟨w.heap.size + 1 + 1 + 1 + 1 + 1, 0, none⟩ = some (.int .u8 (M 5)) := by rw [cell_of_row _ _ _ _ _ _ r5]; rfl
  have q5 : W0.cell? ⟨w.heap.size + 1 + 1 + 1 + 1 + 1, 1, none⟩ = some (.int .i64 (N 5)) := by rw [cell_of_row _ _ _ _ _ _ r5]; rfl
  have t5 : W0.cell? ⟨w.heap.size + 1 + 1 + 1 + 1 + 1, 2, none⟩ = some (.string (S 5)) := by rw [cell_of_row _ _ _ _ _ _ r5]; rfl
  have p6 : W0.cell? ⟨w.heap.size + 1 + 1 + 1 + 1 + 1 + 1, 0, none⟩ = some (.int .u8 (M 6)) := by rw [cell_of_row _ _ _ _ _ _ r6]; rfl
  have q6 : W0.cell? ⟨w.heap.size + 1 + 1 + 1 + 1 + 1 + 1, 1, none⟩ = some (.int .i64 (N 6)) := by rw [cell_of_row _ _ _ _ _ _ r6]; rfl
  have t6 : W0.cell? ⟨w.heap.size + 1 + 1 + 1 + 1 + 1 + 1, 2, none⟩ = some (.string (S 6)) := by rw [cell_of_row _ _ _ _ _ _ r6]; rfl
  have p7 : W0.cell? ⟨w.heap.size + 1 + 1 + 1 + 1 + 1 + 1 + 1, 0, none⟩ = some (.int .u8 (M 7)) := by rw [cell_of_row _ _ _ _ _ _ r7]; rfl
  have q7 : W0.cell? ⟨w.heap.size + 1 + 1 + 1 + 1 + 1 + 1 + 1, 1, none⟩ = some (.int .i64 (N 7)) := by rw [cell_of_row _ _ _ _ _ _ r7]; rfl
  have t7 : W0.cell? ⟨w.heap.size + 1 + 1 + 1 + 1 + 1 + 1 + 1, 2, none⟩ = some (.string (S 7)) := by rw [cell_of_row _ _ _ _ _ _ r7]; rfl
  rw [hW0]
  have HB0 := hide hb0
  clear hW0 r0 r1 r2 r3 r4 r5 r6 r7 hb0
  go_upto_block 0 with (first
    | (refine at_op (.build 24 #[(0, .tmp 40), (1, .tmp 41), (2, .tmp 42), (3, .tmp 43), (4, .tmp 44), (5, .tmp 45), (6, .tmp 46), (7, .tmp 47)]) rfl ?_; refine wpList_build_as rfl _ _ rfl #[(0, argV M N S 0), (1, argV M N S 1), (2, argV M N S 2), (3, argV M N S 3), (4, argV M N S 4), (5, argV M N S 5), (6, argV M N S 6), (7, argV M N S 7)] rfl (valsL M N S).toArray (build24 M N S) ?_)
    | (refine at_op (.store 24 (.tmp 17) (.tmp 48)) rfl ?_; refine wpList_store_new rfl 24 _ _ rfl W0 _ (valsL M N S).toArray (by rw [hs0]; rfl) rfl s24 rfl rfl (one24 M N S) ?_))
  have hb1 := HB0.out.alloc HB0.out.size (Obj.cells (valsL M N S).toArray 24)
  have hv1 : ValsAt (W0.alloc (Obj.cells (valsL M N S).toArray 24)) (w.heap.size + 8) M N S := heap_at _ _ hs0.symm
  obtain ⟨vb, hvb⟩ : ∃ vb, w.heap.size + 8 = vb := ⟨_, rfl⟩
  rw [hvb] at hv1 ⊢
  have HB1 := hide hb1
  have HV1 := hide hv1
  have HVB : Hid (w.heap.size ≤ vb) := by show _ ≤ _; omega
  generalize W0.alloc (Obj.cells (valsL M N S).toArray 24) = W1 at *
  clear hb1 hv1 hs0 hvb HB0 p0 q0 t0 p1 q1 t1 p2 q2 t2 p3 q3 t3 p4 q4 t4 p5 q5 t5 p6 q6 t6 p7 q7 t7
  go_cut [18] (fun s W => s = .int .i64 (tot S 8) ∧ W = W1)
  case first =>
    go_wp2_with fail
    go_loopw [18, 19] (fun s x W => ∃ i : Nat, i ≤ 8 ∧ s = .int .i64 (tot S i) ∧ x = .int .i64 i ∧ tot S i ≤ i * 140737488351232 ∧ W = W1) (fun _ x _ => 8 - (intOf x).toNat)
    case atStart => exact ⟨0, by omega, rfl, rfl, by simp [tot], rfl⟩
    case round =>
      obtain ⟨i, hi, rfl, rfl, hti, hwr⟩ := hrel
      obtain rfl := hwr.symm
      by_cases hlt : i < 8
      · obtain ⟨c0, c1, c2⟩ := HV1.out.cells hlt
        have hsi := HS.out i hlt
        have hte : tot S (i + 1) = tot S i + (S i).size := rfl
        have HTE := hide hte
        clear hte
        go_wp2_with fail
        go_roundw
        case rel => exact ⟨i + 1, by omega, by rw [HTE.out]; go_num, by go_num, by rw [HTE.out]; omega, trivial⟩
        case measure => simp [intOf]; omega
      · have : i = 8 := by omega
        subst this
        go_wp2_with fail
        go_meet
        case rel => exact ⟨rfl, rfl⟩
  case rest =>
    obtain ⟨rfl, hwc⟩ := hcut
    obtain rfl := hwc.symm
    by_cases htot : 1048576 < tot S 8
    · go_wp2_with fail
      go_ret
      exact ⟨rfl, HB1.out⟩
    · have htot' : tot S 8 ≤ 1048576 := by omega
      have HS2 : Hid (∀ i, i < 8 → (S i).size ≤ 1048576) := by
        show ∀ i, i < 8 → _
        intro i hi
        have : ∀ k, i < k → (S i).size ≤ tot S k := by
          intro k
          induction k with
          | zero => intro h; omega
          | succ k ih =>
            intro h
            simp only [tot]
            by_cases e : i = k
            · subst e; omega
            · have := ih (by omega); omega
        have := this 8 hi
        omega
      have hmm := @run_makeMap Ybaf.prog
      clear HS
      go_upto_block 2 with fail
      have hmp : Lp w ((W1.alloc (Obj.cells nmA 25)).alloc (Obj.map #[] 0)) vb W1.heap.size (W1.heap.size + 1) 0 M N S := by
        have hlt1 := (Array.getElem?_eq_some_iff.1 HV1.out).1
        refine ⟨(HB1.out.alloc HB1.out.size _).alloc (by have := HB1.out.size; simp; omega) _, ?_, ?_, ?_, by have := HB1.out.size; omega⟩
        · unfold ValsAt; rw [Below.heap_alloc _ _ _ (by simp; omega), Below.heap_alloc _ _ _ hlt1]; exact HV1.out
        · rw [Below.heap_alloc _ _ _ (by simp)]; exact heap_alloc_new W1 _
        · have := Mp.start (W1.alloc (Obj.cells nmA 25)) (TT M N S)
          rw [show (W1.alloc (Obj.cells nmA 25)).heap.size = W1.heap.size + 1 by simp] at this
          exact this
      obtain ⟨W2, hW2⟩ : ∃ W2, (W1.alloc (Obj.cells nmA 25)).alloc (Obj.map #[] 0) = W2 := ⟨_, rfl⟩
      have hW2' := hW2
      unfold nmA at hW2'
      rw [hW2] at hmp
      rw [hW2']
      obtain ⟨nb, hnb⟩ : ∃ nb, W1.heap.size = nb := ⟨_, rfl⟩
      rw [hnb] at hmp ⊢
      obtain ⟨mb, hmb⟩ : ∃ mb, nb + 1 = mb := ⟨_, rfl⟩
      rw [hmb] at hmp ⊢
      have HP := hide hmp
      clear hmp hW2 hW2' hmm hnb hmb HV1 HB1
      go_cut [22] (fun s W => Lp w W vb nb mb 8 M N S)
      case first =>
        go_wp2_with fail
        go_loopw [22] (fun s W => ∃ i : Nat, i ≤ 8 ∧ s = .int .i64 i ∧ Lp w W vb nb mb i M N S) (fun s _ => 8 - (intOf s).toNat)
        case atStart => exact ⟨0, by omega, rfl, HP.out⟩
        case round =>
          clear HP
          obtain ⟨i, hi, rfl, hP⟩ := hrel
          by_cases hlt : i < 8
          · obtain ⟨c0, c1, c2⟩ := hP.vals.cells hlt
            have hnm := nm_cell hP.nms hlt
            obtain ⟨m0, m1⟩ := HM.out i hlt
            obtain ⟨n0, n1⟩ := HN.out i hlt
            have HPi := hide hP
            have HLi := hide (HL.out.later hP.bel)
            clear hP
            by_cases h5 : (5 : Int) ≤ (i : Int)
            · have hTT : TT M N S i = textOf (M i) (N i) (S i) true := by unfold TT; congr 1; simp; omega
              have HTT := hide hTT
              clear hTT
              go_wp2_with fail
              refine (vals_any (M i) (N i) (S i) true _ m0 m1 n0 n1 HLi.out).mono ?_
              rintro e W3 ⟨v, rfl, htx, hb3⟩
              have HP3 := hide (HPi.out.later hb3)
              rw [← HTT.out] at htx
              have HTX := hide htx
              have hnm3 := nm_cell HP3.out.nms hlt
              clear hb3 htx c0 c1 c2 hnm HPi HLi
              by_cases hm0 : M i % 4 = 0
              · have hte : TT M N S i = ByteArray.empty := by rw [HTT.out, textOf, if_neg (by omega), if_neg (by omega)]
                have HTE := hide hte
                clear hte
                have hd : decide (¬ M i % 4 = 0) = false := decide_eq_false (by simpa using hm0)
                rw [hd]
                clear hd
                go_wp2_with fail
                go_roundw
                case rel => exact ⟨i + 1, by omega, by go_num, HP3.out.skip hlt HTE.out⟩
                case measure => simp [intOf]; omega
              · have hd : decide (¬ M i % 4 = 0) = true := decide_eq_true hm0
                rw [hd]
                clear hd
                obtain ⟨n, D, hn, ho, h1, h2⟩ := HP3.out.mp
                have HO := hide ho
                have H1 := hide h1
                have H2 := hide h2
                have HK := hide (key9 (nm i) (nmsz i))
                clear ho h1 h2
                go_wp2_with (at_mapUpdate; refine wpList_mapUpdate_in _ rfl _ _ _ 27 rfl 9 28 law9 Ybaf.underlying27 hv mb n D rfl HO.out (by unfold maxLen; omega) _ _ _ rfl rfl HK.out _ [] rfl ?_; intro w1 hown1 hturn1)
                have HQ := hide (HP3.out.put hlt hn HO.out hown1 hturn1 H1.out H2.out HTX.out)
                clear hown1 hturn1 HO H1 H2 HK HP3
                go_wp2_with fail
                go_roundw
                case rel => exact ⟨i + 1, by omega, by go_num, HQ.out⟩
                case measure => simp [intOf]; omega
            · have hTT : TT M N S i = textOf (M i) (N i) (S i) false := by unfold TT; congr 1; simp; omega
              have HTT := hide hTT
              clear hTT
              go_wp2_with fail
              refine (vals_any (M i) (N i) (S i) false _ m0 m1 n0 n1 HLi.out).mono ?_
              rintro e W3 ⟨v, rfl, htx, hb3⟩
              have HP3 := hide (HPi.out.later hb3)
              rw [← HTT.out] at htx
              have HTX := hide htx
              have hnm3 := nm_cell HP3.out.nms hlt
              clear hb3 htx c0 c1 c2 hnm HPi HLi
              by_cases hm0 : M i % 4 = 0
              · have hte : TT M N S i = ByteArray.empty := by rw [HTT.out, textOf, if_neg (by omega), if_neg (by omega)]
                have HTE := hide hte
                clear hte
                have hd : decide (¬ M i % 4 = 0) = false := decide_eq_false (by simpa using hm0)
                rw [hd]
                clear hd
                go_wp2_with fail
                go_roundw
                case rel => exact ⟨i + 1, by omega, by go_num, HP3.out.skip hlt HTE.out⟩
                case measure => simp [intOf]; omega
              · have hd : decide (¬ M i % 4 = 0) = true := decide_eq_true hm0
                rw [hd]
                clear hd
                obtain ⟨n, D, hn, ho, h1, h2⟩ := HP3.out.mp
                have HO := hide ho
                have H1 := hide h1
                have H2 := hide h2
                have HK := hide (key9 (nm i) (nmsz i))
                clear ho h1 h2
                go_wp2_with (at_mapUpdate; refine wpList_mapUpdate_in _ rfl _ _ _ 27 rfl 9 28 law9 Ybaf.underlying27 hv mb n D rfl HO.out (by unfold maxLen; omega) _ _ _ rfl rfl HK.out _ [] rfl ?_; intro w1 hown1 hturn1)
                have HQ := hide (HP3.out.put hlt hn HO.out hown1 hturn1 H1.out H2.out HTX.out)
                clear hown1 hturn1 HO H1 H2 HK HP3
                go_wp2_with fail
                go_roundw
                case rel => exact ⟨i + 1, by omega, by go_num, HQ.out⟩
                case measure => simp [intOf]; omega
          · have : i = 8 := by omega
            subst this
            have HPe := hide hP
            clear hP
            go_wp2_with fail
            go_meet
            case rel => exact HPe.out
      case rest =>
        clear HP
        have hsz := TT_size (M := M) HN.out HS2.out
        have hG := hcut.mp.gets hsz
        obtain ⟨z0, z1, z2⟩ := hcut.vals.cells (i := 0) (by omega)
        have HC := hide hcut
        have HSZ := hide hsz
        have hLc := HL.out.later hcut.bel
        have HLc := hide hLc
        have HGc := hide hG
        clear hcut hG hsz hLc z0 z1 z2
        obtain ⟨T, hT⟩ : ∃ T, TT M N S = T := ⟨_, rfl⟩
        have HT := hide hT
        rw [hT] at HGc HSZ
        clear hT
        go_wp2_with fail
        refine (parse_any mb T _ HGc.out HLc.out).mono ?_
        rintro e W3 ⟨ev, rfl, hev, hb3⟩
        have HC3 := hide (HC.out.later hb3)
        obtain ⟨q, b1, b2, i3, i4, i5, i6, b7, b8, hA⟩ := wf_fRun T 3 (by omega)
        rw [hA]
        have HA := hide hA
        have HEV := hide hev
        obtain ⟨m0, m1⟩ := HM.out 0 (by omega)
        obtain ⟨n0, n1⟩ := HN.out 0 (by omega)
        have HL4 := hide ((HL.out.later HC3.out.bel).later ((Below.refl _ _).alloc (Nat.le_refl _) (Obj.cells #[.string q, .bool b1, .bool b2, .int .i64 i3, .int .i64 i4, .int .i64 i5, .int .i64 i6, .bool b7, .bool b8] 32)))
        obtain ⟨z0, z1, z2⟩ := (HC3.out.later ((Below.refl _ _).alloc (Nat.le_refl _) (Obj.cells #[.string q, .bool b1, .bool b2, .int .i64 i3, .int .i64 i4, .int .i64 i5, .int .i64 i6, .bool b7, .bool b8] 32))).vals.cells (i := 0) (by omega)
        simp only [Nat.zero_mul, Nat.zero_add] at z0 z1 z2
        clear hb3 HC HGc HLc hA hev
        go_wp2_with fail
        refine (text_any (M 0) (N 0) (S 0) false _ m0 m1 n0 n1 HL4.out).mono ?_
        rintro e W4 ⟨rfl, hb4⟩
        have hT0 : textOf (M 0) (N 0) (S 0) false = T 0 := by rw [← HT.out]; rfl
        rw [hT0]
        have hR : Rp w (W4.alloc (Obj.cells (A0 (T 0)) 32)) vb W3.heap.size W4.heap.size M N S #[.string q, .bool b1, .bool b2, .int .i64 i3, .int .i64 i4, .int .i64 i5, .int .i64 i6, .bool b7, .bool b8] (cRun T 0).1 := by
          have hba := (Below.refl W3.heap.size W3).alloc (Nat.le_refl _) (Obj.cells #[.string q, .bool b1, .bool b2, .int .i64 i3, .int .i64 i4, .int .i64 i5, .int .i64 i6, .bool b7, .bool b8] 32)
          have h1 := (HC3.out.later hba).later hb4
          have hg := heap_alloc_new W3 (Obj.cells #[.string q, .bool b1, .bool b2, .int .i64 i3, .int .i64 i4, .int .i64 i5, .int .i64 i6, .bool b7, .bool b8] 32)
          have hg4 : W4.heap[W3.heap.size]? = some (.cells #[.string q, .bool b1, .bool b2, .int .i64 i3, .int .i64 i4, .int .i64 i5, .int .i64 i6, .bool b7, .bool b8] 32 (0, 0)) := by rw [hb4.block _ (by simp)]; exact hg
          have hlt4 := (Array.getElem?_eq_some_iff.1 hg4).1
          have hltv := (Array.getElem?_eq_some_iff.1 h1.vals).1
          refine ⟨h1.bel.alloc h1.bel.size _, ?_, ?_, heap_alloc_new W4 _, by omega, by omega, h1.bel.size⟩
          · unfold ValsAt; rw [Below.heap_alloc _ _ _ hltv]; exact h1.vals
          · rw [Below.heap_alloc _ _ _ hlt4]; exact hg4
        obtain ⟨gb, hgb⟩ : ∃ gb, W3.heap.size = gb := ⟨_, rfl⟩
        rw [hgb] at hR ⊢
        have HR := hide hR
        clear hb4 hT0 hR HC3 HL4 z0 z1 z2 hgb
        go_upto_block 4 with fail
        obtain ⟨wb, hwb⟩ : ∃ wb, W4.heap.size = wb := ⟨_, rfl⟩
        have hA0 : (W4.alloc (Obj.cells (A0 (T 0)) 32)) = W4.alloc (Obj.cells #[.string (T 0), .bool false, .bool false, .int .i64 0, .int .i64 0, .int .i64 0, .int .i64 0, .bool false, .bool false] 32) := rfl
        rw [hA0] at HR
        rw [hwb] at HR ⊢
        generalize W4.alloc (Obj.cells #[.string (T 0), .bool false, .bool false, .int .i64 0, .int .i64 0, .int .i64 0, .int .i64 0, .bool false, .bool false] 32) = W5 at *
        clear hA0 hwb m0 m1 n0 n1
        go_cut [28] (fun s W => s = .bool (cRun T 3).2 ∧ Rp w W vb gb wb M N S #[.string q, .bool b1, .bool b2, .int .i64 i3, .int .i64 i4, .int .i64 i5, .int .i64 i6, .bool b7, .bool b8] (cRun T 3).1)
        case first =>
          go_wp2_with fail
          go_loopw [28, 29] (fun f s W => ∃ i j : Nat, i = j + 1 ∧ j ≤ 3 ∧ s = .int .i64 i ∧ f = .bool false ∧ (cRun T j).2 = false ∧ Rp w W vb gb wb M N S #[.string q, .bool b1, .bool b2, .int .i64 i3, .int .i64 i4, .int .i64 i5, .int .i64 i6, .bool b7, .bool b8] (cRun T j).1) (fun _ s _ => 5 - (intOf s).toNat)
          case atStart => exact ⟨1, 0, rfl, by omega, rfl, rfl, rfl, HR.out⟩
          case round =>
            clear HR
            obtain ⟨i, j, hij, hj, rfl, rfl, hnf, hP⟩ := hrel
            by_cases hlt : j < 3
            · have hi3 : (i : Int) ≤ 3 := by omega
              obtain ⟨c0, c1, c2⟩ := hP.vals.cells (i := i) (by omega)
              obtain ⟨m0, m1⟩ := HM.out i (by omega)
              obtain ⟨n0, n1⟩ := HN.out i (by omega)
              have hti : textOf (M i) (N i) (S i) false = T i := by
                rw [← HT.out, TT, show decide (5 ≤ i) = false from decide_eq_false (by omega)]
              have hstep : cRun T (j + 1) = cStep (cRun T j).1 (co j) (T i) := by rw [cRun, hnf, hij]; rfl
              have hts := HSZ.out i (by omega)
              obtain ⟨t, ht⟩ : ∃ t, T i = t := ⟨_, rfl⟩
              rw [ht] at hti hstep hts
              have HTI := hide hti
              have HST := hide hstep
              have HPi := hide hP
              have HLi := hide (HL.out.later hP.bel)
              have hwf := (wf_cRun T j hj).size
              have HWF := hide hwf
              have i0 : (0 : Int) ≤ (i : Int) := by omega
              have i8 : (i : Int) < 8 := by omega
              have HIJ := hide hij
              clear hP hti hstep ht hwf hij
              go_wp2_with fail
              refine (text_any (M i) (N i) (S i) false _ m0 m1 n0 n1 HLi.out).mono ?_
              rintro e W6 ⟨rfl, hb6⟩
              rw [HTI.out]
              have HP6 := hide (HPi.out.later hb6)
              clear hb6 HPi HLi c0 c1 c2 HTI m0 m1 n0 n1
              by_cases hte : t = ByteArray.empty
              · have h1 : cRun T (j + 1) = ((cRun T j).1, false) := by rw [HST.out, cStep, if_pos hte]
                have H1 := hide h1
                clear h1
                subst hte
                go_wp2_with fail
                go_roundw
                case rel => exact ⟨i + 1, j + 1, by rw [HIJ.out], by omega, by go_num, rfl, by rw [H1.out], by rw [H1.out]; exact HP6.out⟩
                case measure => simp [intOf]; omega
              · have htq : (t.toList == []) = false := by rw [Lib.toList_data]; exact beq_eq_false_iff_ne.2 fun e => hte (bytes_eq (l := #[]).2 e)
                have HTE := hide hte
                clear hte
                go_wp2_with fail
                refine (num_any t _ (by unfold maxLen; omega)).mono ?_
                rintro e W7 ⟨rfl, hw7⟩
                obtain rfl := hw7.symm
                cases hno : numOf t.data.toList with
                | none =>
                  have H1 := hide (HST.out.trans (cS_no HTE.out hno))
                  have H3 := hide (fail_c T (i := j + 1) (by rw [H1.out]) 3 (by omega))
                  rw [H1.out] at H3
                  clear hno
                  simp only [numV]
                  go_wp2_with fail
                  go_meet
                  case rel => exact ⟨by rw [H3.out], by rw [H3.out]; exact HP6.out⟩
                | some k =>
                  have hkl := numOf_lt hno
                  simp only [numV]
                  by_cases hk : 1 ≤ k
                  · have H1 := hide (HST.out.trans (cS_yes HTE.out hno hk))
                    have hk' : (1 : Int) ≤ (k : Int) := by omega
                    clear hno
                    have f3 := HP6.out.free 3
                    have f4 := HP6.out.free 4
                    have f5 := HP6.out.free 5
                    obtain ⟨u3, g3⟩ := HP6.out.cell HWF.out 3 (by omega)
                    obtain ⟨u4, g4⟩ := HP6.out.cell HWF.out 4 (by omega)
                    obtain ⟨u5, g5⟩ := HP6.out.cell HWF.out 5 (by omega)
                    have hj3 : j = 0 ∨ j = 1 ∨ j = 2 := by omega
                    have hij := HIJ.out
                    clear HIJ
                    rcases hj3 with rfl | rfl | rfl
                    all_goals
                      subst hij
                      go_wp2_with fail
                      go_roundw
                      case rel => first
                        | exact ⟨2, 1, rfl, by omega, rfl, rfl, by rw [show cRun T 1 = _ from H1.out], by rw [show cRun T 1 = _ from H1.out]; exact HP6.out.set _ _⟩
                        | exact ⟨3, 2, rfl, by omega, rfl, rfl, by rw [show cRun T 2 = _ from H1.out], by rw [show cRun T 2 = _ from H1.out]; exact HP6.out.set _ _⟩
                        | exact ⟨4, 3, rfl, by omega, rfl, rfl, by rw [show cRun T 3 = _ from H1.out], by rw [show cRun T 3 = _ from H1.out]; exact HP6.out.set _ _⟩
                      case measure => simp [intOf]
                  · have H1 := hide (HST.out.trans (cS_small HTE.out hno hk))
                    have H3 := hide (fail_c T (i := j + 1) (by rw [H1.out]) 3 (by omega))
                    rw [H1.out] at H3
                    have hk' : (k : Int) < 1 := by omega
                    clear hno
                    go_wp2_with fail
                    go_meet
                    case rel => exact ⟨by rw [H3.out], by rw [H3.out]; exact HP6.out⟩
            · have : j = 3 := by omega
              subst this
              subst hij
              have HP6 := hide hP
              clear hP
              go_wp2_with fail
              go_meet
              case rel => exact ⟨by rw [hnf], HP6.out⟩
        case rest =>
          obtain ⟨rfl, hR⟩ := hcut
          have HR3 := hide hR
          clear hR HR
          go_upto_if 129 with fail
          go_cut [28] (fun s W => s = .bool (nRun T).2 ∧ Rp w W vb gb wb M N S #[.string q, .bool b1, .bool b2, .int .i64 i3, .int .i64 i4, .int .i64 i5, .int .i64 i6, .bool b7, .bool b8] (nRun T).1)
          case first =>
            rcases hc3 : (cRun T 3).2 with _ | _
            · obtain ⟨c0, c1, c2⟩ := HR3.out.vals.cells (i := 4) (by omega)
              obtain ⟨m0, m1⟩ := HM.out 4 (by omega)
              obtain ⟨n0, n1⟩ := HN.out 4 (by omega)
              have hti : textOf (M 4) (N 4) (S 4) false = T 4 := by rw [← HT.out]; rfl
              have hn : nRun T = nStep (cRun T 3).1 (T 4) := by rw [nRun, hc3]; rfl
              have hts := HSZ.out 4 (by omega)
              obtain ⟨t, ht⟩ : ∃ t, T 4 = t := ⟨_, rfl⟩
              rw [ht] at hti hn hts
              have HTI := hide hti
              have HNS := hide hn
              have HLi := hide (HL.out.later HR3.out.bel)
              have HWF := hide (wf_cRun T 3 (by omega)).size
              simp only [Nat.reduceMul, Nat.reduceAdd] at c0 c1 c2
              clear hti hn ht hc3
              go_wp2_with fail
              refine (text_any (M 4) (N 4) (S 4) false _ m0 m1 n0 n1 HLi.out).mono ?_
              rintro e W6 ⟨rfl, hb6⟩
              rw [HTI.out]
              have HP6 := hide (HR3.out.later hb6)
              clear hb6 HR3 HLi c0 c1 c2 HTI m0 m1 n0 n1
              by_cases hte : t = ByteArray.empty
              · have h1 : nRun T = ((cRun T 3).1, false) := by rw [HNS.out, nStep, if_pos hte]
                have H1 := hide h1
                clear h1
                subst hte
                go_wp2_with fail
                go_meet
                case rel => exact ⟨by rw [H1.out], by rw [H1.out]; exact HP6.out⟩
              · have htq : (t.toList == []) = false := by rw [Lib.toList_data]; exact beq_eq_false_iff_ne.2 fun e => hte (bytes_eq (l := #[]).2 e)
                have HTE := hide hte
                clear hte
                go_wp2_with fail
                refine (num_any t _ (by unfold maxLen; omega)).mono ?_
                rintro e W7 ⟨rfl, hw7⟩
                obtain rfl := hw7.symm
                cases hno : numOf t.data.toList with
                | none =>
                  have H1 := hide (HNS.out.trans (nS_no HTE.out hno))
                  clear hno
                  simp only [numV]
                  go_wp2_with fail
                  go_meet
                  case rel => exact ⟨by rw [H1.out], by rw [H1.out]; exact HP6.out⟩
                | some k =>
                  have H1 := hide (HNS.out.trans (nS_yes HTE.out hno))
                  have hkl := numOf_lt hno
                  clear hno
                  simp only [numV]
                  have f6 := HP6.out.free 6
                  have f7 := HP6.out.free 7
                  obtain ⟨u6, g6⟩ := HP6.out.cell HWF.out 6 (by omega)
                  obtain ⟨u7, g7⟩ := HP6.out.cell HWF.out 7 (by omega)
                  go_wp2_with fail
                  go_meet
                  case rel => exact ⟨by rw [H1.out], by rw [H1.out]; exact (HP6.out.set _ _).set _ _⟩
            · have h1 : nRun T = cRun T 3 := by rw [nRun, if_pos hc3]
              have H1 := hide h1
              have HC3 := hide hc3
              clear h1 hc3
              go_wp2_with fail
              go_meet
              case rel => exact ⟨by rw [H1.out, HC3.out], by rw [H1.out]; exact HR3.out⟩
          case rest =>
            obtain ⟨rfl, hR⟩ := hcut
            have HR4 := hide hR
            clear hR HR3
            go_upto_block 7 with fail
            go_cut [28] (fun s W => s = .bool (fRun T 3).2 ∧ Rp w W vb gb wb M N S #[.string q, .bool b1, .bool b2, .int .i64 i3, .int .i64 i4, .int .i64 i5, .int .i64 i6, .bool b7, .bool b8] (fRun T 3).1)
            case first =>
              go_wp2_with fail
              go_loopw [28, 36] (fun f s W => ∃ i j : Nat, i = 5 + j ∧ j ≤ 3 ∧ s = .int .i64 i ∧ f = .bool (fRun T j).2 ∧ Rp w W vb gb wb M N S #[.string q, .bool b1, .bool b2, .int .i64 i3, .int .i64 i4, .int .i64 i5, .int .i64 i6, .bool b7, .bool b8] (fRun T j).1) (fun _ s _ => 9 - (intOf s).toNat)
              case atStart => exact ⟨5, 0, rfl, by omega, rfl, rfl, HR4.out⟩
              case round =>
                clear HR4
                obtain ⟨i, j, hij, hj, rfl, rfl, hP⟩ := hrel
                by_cases hlt : j < 3
                · have i8 : (i : Int) < 8 := by omega
                  have i0 : (0 : Int) ≤ (i : Int) := by omega
                  rcases hfj : (fRun T j).2 with _ | _
                  · obtain ⟨c0, c1, c2⟩ := hP.vals.cells (i := i) (by omega)
                    obtain ⟨m0, m1⟩ := HM.out i (by omega)
                    obtain ⟨n0, n1⟩ := HN.out i (by omega)
                    have hti : textOf (M i) (N i) (S i) true = T i := by
                      rw [← HT.out, TT, show decide (5 ≤ i) = true from decide_eq_true (by omega)]
                    have hstep : fRun T (j + 1) = bStep (fRun T j).1 (fo j) (T i) := by rw [fRun, hfj, hij]; rfl
                    have hts := HSZ.out i (by omega)
                    obtain ⟨t, ht⟩ : ∃ t, T i = t := ⟨_, rfl⟩
                    rw [ht] at hti hstep hts
                    have HTI := hide hti
                    have HST := hide hstep
                    have HPi := hide hP
                    have HLi := hide (HL.out.later hP.bel)
                    have HWF := hide (wf_fRun T j hj).size
                    have HIJ := hide hij
                    clear hP hti hstep ht hij hfj
                    go_wp2_with fail
                    refine (text_any (M i) (N i) (S i) true _ m0 m1 n0 n1 HLi.out).mono ?_
                    rintro e W6 ⟨rfl, hb6⟩
                    rw [HTI.out]
                    have HP6 := hide (HPi.out.later hb6)
                    clear hb6 HPi HLi c0 c1 c2 HTI m0 m1 n0 n1
                    by_cases hte : t = ByteArray.empty
                    · have h1 : fRun T (j + 1) = ((fRun T j).1, false) := by rw [HST.out, bStep, if_pos hte]
                      have H1 := hide h1
                      clear h1
                      subst hte
                      go_wp2_with fail
                      go_roundw
                      case rel => exact ⟨i + 1, j + 1, by rw [HIJ.out]; omega, by omega, by go_num, by rw [H1.out], by rw [H1.out]; exact HP6.out⟩
                      case measure => simp [intOf]; omega
                    · have htq : (t.toList == []) = false := by rw [Lib.toList_data]; exact beq_eq_false_iff_ne.2 fun e => hte (bytes_eq (l := #[]).2 e)
                      have HTE := hide hte
                      clear hte
                      go_wp2_with fail
                      refine (cbool_any t _).mono ?_
                      rintro e W7 ⟨rfl, hw7⟩
                      obtain rfl := hw7.symm
                      cases hno : Lib.parseBool t.data.toList with
                      | none =>
                        have H1 := hide (HST.out.trans (bStep_no HTE.out hno))
                        have H3 := hide (fail_f T (i := j + 1) (by rw [H1.out]) 3 (by omega))
                        rw [H1.out] at H3
                        clear hno
                        simp only [boolV]
                        go_wp2_with fail
                        go_meet
                        case rel => exact ⟨by rw [H3.out], by rw [H3.out]; exact HP6.out⟩
                      | some k =>
                        have H1 := hide (HST.out.trans (bStep_yes HTE.out hno))
                        clear hno
                        simp only [boolV]
                        have f1 := HP6.out.free 1
                        have f2 := HP6.out.free 2
                        have f8 := HP6.out.free 8
                        obtain ⟨u1, g1⟩ := HP6.out.cell HWF.out 1 (by omega)
                        obtain ⟨u2, g2⟩ := HP6.out.cell HWF.out 2 (by omega)
                        obtain ⟨u8, g8⟩ := HP6.out.cell HWF.out 8 (by omega)
                        have hj3 : j = 0 ∨ j = 1 ∨ j = 2 := by omega
                        have hij := HIJ.out
                        clear HIJ
                        rcases hj3 with rfl | rfl | rfl
                        all_goals
                          subst hij
                          go_wp2_with fail
                          go_roundw
                          case rel => first
                            | exact ⟨6, 1, rfl, by omega, rfl, by rw [show fRun T 1 = _ from H1.out], by rw [show fRun T 1 = _ from H1.out]; exact HP6.out.set _ _⟩
                            | exact ⟨7, 2, rfl, by omega, rfl, by rw [show fRun T 2 = _ from H1.out], by rw [show fRun T 2 = _ from H1.out]; exact HP6.out.set _ _⟩
                            | exact ⟨8, 3, rfl, by omega, rfl, by rw [show fRun T 3 = _ from H1.out], by rw [show fRun T 3 = _ from H1.out]; exact HP6.out.set _ _⟩
                          case measure => simp [intOf]
                  · have H3 := hide (fail_f T (i := j) hfj 3 (by omega))
                    have HF := hide hfj
                    have HP6 := hide hP
                    have HIJ := hide hij
                    clear hfj hP hij
                    go_wp2_with fail
                    go_meet
                    case rel => exact ⟨by rw [H3.out, HF.out], by rw [H3.out]; exact HP6.out⟩
                · have : j = 3 := by omega
                  subst this
                  subst hij
                  have HP6 := hide hP
                  clear hP
                  go_wp2_with fail
                  go_meet
                  case rel => exact ⟨rfl, HP6.out⟩
            case rest =>
              obtain ⟨rfl, hR⟩ := hcut
              rw [HA.out] at hR
              have HR5 := hide hR
              clear hR HR4
              have g0 : wc.cell? ⟨gb, 0, none⟩ = some (.string q) := by rw [cell_of_row _ _ _ _ _ _ HR5.out.got]; rfl
              have e0 : wc.cell? ⟨wb, 0, none⟩ = some (.string q) := by rw [cell_of_row _ _ _ _ _ _ HR5.out.want]; rfl
              have g1 : wc.cell? ⟨gb, 1, none⟩ = some (.bool b1) := by rw [cell_of_row _ _ _ _ _ _ HR5.out.got]; rfl
              have e1 : wc.cell? ⟨wb, 1, none⟩ = some (.bool b1) := by rw [cell_of_row _ _ _ _ _ _ HR5.out.want]; rfl
              have g2 : wc.cell? ⟨gb, 2, none⟩ = some (.bool b2) := by rw [cell_of_row _ _ _ _ _ _ HR5.out.got]; rfl
              have e2 : wc.cell? ⟨wb, 2, none⟩ = some (.bool b2) := by rw [cell_of_row _ _ _ _ _ _ HR5.out.want]; rfl
              have g3 : wc.cell? ⟨gb, 3, none⟩ = some (.int .i64 i3) := by rw [cell_of_row _ _ _ _ _ _ HR5.out.got]; rfl
              have e3 : wc.cell? ⟨wb, 3, none⟩ = some (.int .i64 i3) := by rw [cell_of_row _ _ _ _ _ _ HR5.out.want]; rfl
              have g4 : wc.cell? ⟨gb, 4, none⟩ = some (.int .i64 i4) := by rw [cell_of_row _ _ _ _ _ _ HR5.out.got]; rfl
              have e4 : wc.cell? ⟨wb, 4, none⟩ = some (.int .i64 i4) := by rw [cell_of_row _ _ _ _ _ _ HR5.out.want]; rfl
              have g5 : wc.cell? ⟨gb, 5, none⟩ = some (.int .i64 i5) := by rw [cell_of_row _ _ _ _ _ _ HR5.out.got]; rfl
              have e5 : wc.cell? ⟨wb, 5, none⟩ = some (.int .i64 i5) := by rw [cell_of_row _ _ _ _ _ _ HR5.out.want]; rfl
              have g6 : wc.cell? ⟨gb, 6, none⟩ = some (.int .i64 i6) := by rw [cell_of_row _ _ _ _ _ _ HR5.out.got]; rfl
              have e6 : wc.cell? ⟨wb, 6, none⟩ = some (.int .i64 i6) := by rw [cell_of_row _ _ _ _ _ _ HR5.out.want]; rfl
              have g7 : wc.cell? ⟨gb, 7, none⟩ = some (.bool b7) := by rw [cell_of_row _ _ _ _ _ _ HR5.out.got]; rfl
              have e7 : wc.cell? ⟨wb, 7, none⟩ = some (.bool b7) := by rw [cell_of_row _ _ _ _ _ _ HR5.out.want]; rfl
              have g8 : wc.cell? ⟨gb, 8, none⟩ = some (.bool b8) := by rw [cell_of_row _ _ _ _ _ _ HR5.out.got]; rfl
              have e8 : wc.cell? ⟨wb, 8, none⟩ = some (.bool b8) := by rw [cell_of_row _ _ _ _ _ _ HR5.out.want]; rfl
              rcases HEV.out with ⟨rfl, hff⟩ | ⟨⟨p, rfl⟩, hff⟩
              · rw [hff]
                clear HEV hff
                go_wp2_with fail
                go_ret
                exact ⟨rfl, HR5.out.bel⟩
              · rw [hff]
                clear HEV hff
                go_wp2_with fail
                go_ret
                exact ⟨rfl, HR5.out.bel⟩
end Go.Proofs.YbulkednkFmt
