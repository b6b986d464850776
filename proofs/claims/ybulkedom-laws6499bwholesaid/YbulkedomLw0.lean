import Derived.Test.YbulkedomBi
import Derived.Test.YbulkedomNm
import Derived.Test.YbulkedomClone
import Derived.Test.YbulkedomPick
namespace Go.Proofs.Ybulkedom
open Go.RowKit Go.Maps
set_option linter.unusedVariables false

theorem info31 : (Yba.prog.info? 31).map (fun i => (i.zero, i.size, i.bytes)) = some (some (.agg #[.string ⟨#[]⟩, .string ⟨#[]⟩, .int .i64 0]), 3, 40) := by kernel_rfl
/-- The enable_only relations. -/
def onF (j : Nat) : List Value := [.string (nmB j), .string ⟨#[]⟩, .int .i64 (j + 1)]
/-- The switches as the law has made them so far. -/
structure Sx (w W : World) (f : ByteArray) (m1 m2 : Nat) (dis : ByteArray → Bool) (fst : ByteArray → Option Int) (oa : Option Addr) (k oc : Nat) : Prop where
  bel : Below w.heap.size w W
  md : MD W w.heap.size m1 dis
  mf : MF W (w.heap.size + 1) m2 fst
  row : W.heap[w.heap.size + 2]? = some (.cells (swC f w.heap.size oa k oc (w.heap.size + 1)) 28 (0, 0))
  own : W.ownsRow (w.heap.size + 3) 31 3 (.slice oa k oc) k (flat onF k)

section
variable {w W W' : World} {f : ByteArray} {m1 m2 : Nat} {dis : ByteArray → Bool} {fst : ByteArray → Option Int} {oa : Option Addr} {k oc : Nat}
theorem Sx.later (h : Sx w W f m1 m2 dis fst oa k oc) (hb : Below W.heap.size W W') : Sx w W' f m1 m2 dis fst oa k oc :=
  ⟨h.bel.trans (hb.mono h.bel.size), h.md.below hb, h.mf.below hb, by rw [hb.block _ (Array.getElem?_eq_some_iff.1 h.row).1]; exact h.row, own_below h.own hb⟩
theorem Sx.lt (h : Sx w W f m1 m2 dis fst oa k oc) : w.heap.size + 2 < W.heap.size := (Array.getElem?_eq_some_iff.1 h.row).1
theorem Sx.cell (h : Sx w W f m1 m2 dis fst oa k oc) (j : Nat) : W.cell? ⟨w.heap.size + 2, j, none⟩ = (swC f w.heap.size oa k oc (w.heap.size + 1))[j]? := cell_of_row _ _ _ _ _ _ h.row
theorem Sx.new (w : World) (f : ByteArray) : Sx w (((w.alloc (.map #[] 0)).alloc (.map #[] 0)).alloc (.cells (swC f w.heap.size none 0 0 (w.heap.size + 1)) 28)) f 0 0 (fun _ => false) (fun _ => none) none 0 0 := by
  have hs : (w.alloc (.map #[] 0)).heap.size = w.heap.size + 1 := by simp
  have hs2 : ((w.alloc (.map #[] 0)).alloc (.map #[] 0)).heap.size = w.heap.size + 2 := by simp
  refine ⟨(((Below.refl _ _).alloc (Nat.le_refl _) _).alloc (by simp) _).alloc (by simp; omega) _, ?_, ?_, heap_at _ _ hs2.symm, rfl, .inl ⟨rfl, rfl⟩⟩
  · exact (MD.new w 0).below (((Below.refl _ _).alloc (Nat.le_refl _) _).alloc (by simp) _)
  · have h := MF.new (w.alloc (.map #[] 0)) 0
    rw [hs] at h
    exact h.below ((Below.refl _ _).alloc (Nat.le_refl _) _)
theorem own_block {B t sz n : Nat} {v : Value} {xs : List Value} (h : W.ownsRow B t sz v n xs) (hb : ∀ g, B ≤ g → g < W.heap.size → W'.heap[g]? = W.heap[g]?) : W'.ownsRow B t sz v n xs := by
  refine ⟨h.1, ?_⟩
  rcases h.2 with h' | ⟨g, cap, cur, h', hb', hg, hr⟩
  · exact .inl h'
  · exact .inr ⟨g, cap, cur, h', hb', by rw [hb g hb' (Array.getElem?_eq_some_iff.1 hg).1]; exact hg, hr⟩
theorem Sx.turnD (h : Sx w W f m1 m2 dis fst oa k oc) {m1' : Nat} {dis' : ByteArray → Bool} (hd : MD W' w.heap.size m1' dis') (ht : W.mapTurned W' w.heap.size) : Sx w W' f m1' m2 dis' fst oa k oc := by
  have hg := ht.grown
  have hb : ∀ g, g < W.heap.size → g ≠ w.heap.size → W'.heap[g]? = W.heap[g]? := fun g h1 h2 => hg.block g h1 (by simp; exact fun e => h2 e)
  have hlt := h.lt
  exact ⟨h.bel.grown hg h.bel.size (fun x hx => by simp at hx; omega), hd, h.mf.of_block (hb _ h.mf.lt (by omega)), by rw [hb _ hlt (by omega)]; exact h.row, own_block h.own fun g h1 h2 => hb g h2 (by omega)⟩
theorem Sx.turnF (h : Sx w W f m1 m2 dis fst oa k oc) {m2' : Nat} {fst' : ByteArray → Option Int} (hd : MF W' (w.heap.size + 1) m2' fst') (ht : W.mapTurned W' (w.heap.size + 1)) : Sx w W' f m1 m2' dis fst' oa k oc := by
  have hg := ht.grown
  have hb : ∀ g, g < W.heap.size → g ≠ w.heap.size + 1 → W'.heap[g]? = W.heap[g]? := fun g h1 h2 => hg.block g h1 (by simp; exact fun e => h2 e)
  have hlt := h.lt
  exact ⟨h.bel.grown hg h.bel.size (fun x hx => by simp at hx; omega), h.md.of_block (hb _ h.md.lt (by omega)), hd, by rw [hb _ hlt (by omega)]; exact h.row, own_block h.own fun g h1 h2 => hb g h2 (by omega)⟩
theorem MD.congr {b : Nat} {dis' : ByteArray → Bool} (h : MD W b m1 dis) (he : ∀ s, dis s = dis' s) {m1' : Nat} (hm : m1 ≤ m1') : MD W b m1' dis' := by
  obtain ⟨n, D, hn, ho, hr⟩ := h
  exact ⟨n, D, by omega, ho, fun s => by rw [← he s]; exact hr s⟩
theorem MF.congr {b : Nat} {fst' : ByteArray → Option Int} (h : MF W b m2 fst) (he : ∀ s, fst s = fst' s) {m2' : Nat} (hm : m2 ≤ m2') : MF W b m2' fst' := by
  obtain ⟨n, D, hn, ho, hr⟩ := h
  exact ⟨n, D, by omega, ho, fun s => by rw [← he s]; exact hr s⟩
theorem Sx.congrD (h : Sx w W f m1 m2 dis fst oa k oc) {dis' : ByteArray → Bool} (he : ∀ s, dis s = dis' s) {m1' : Nat} (hm : m1 ≤ m1') : Sx w W f m1' m2 dis' fst oa k oc := ⟨h.bel, h.md.congr he hm, h.mf, h.row, h.own⟩
theorem Sx.congrF (h : Sx w W f m1 m2 dis fst oa k oc) {fst' : ByteArray → Option Int} (he : ∀ s, fst s = fst' s) {m2' : Nat} (hm : m2 ≤ m2') : Sx w W f m1 m2' dis fst' oa k oc := ⟨h.bel, h.md, h.mf.congr he hm, h.row, h.own⟩
/-- One more name disabled. -/
theorem MD.put {b n : Nat} {D : DataW Value} {z : Nat → Int} {j : Nat} {v : ByteArray} {l : Int} (hn : n ≤ j) (hD : IsMap D) (hr : ∀ s, Maps.has D (kl s) = disR z j s ∧ ∃ v f l, D.atKey (kl s) (.held (.agg (rl ByteArray.empty ByteArray.empty 0))) = .held (.agg (rl v f l)))
    (ho : W'.ownsMap Yba.prog 9 hv b (n + 1) (D.put (kl (nmB (z j))) (.held (.agg (rl v ByteArray.empty l))))) : MD W' b (j + 1) (disR z (j + 1)) := by
  refine ⟨n + 1, _, by omega, ho, fun s => ?_⟩
  by_cases e : s = nmB (z j)
  · subst e
    exact ⟨by rw [has_put_same hD (show WideAt.IsKeyLit (kl _) from trivial)]; exact (disR_yes rfl).symm, _, _, _, atKey_put_same hD (show WideAt.IsKeyLit (kl _) from trivial) _ _⟩
  · obtain ⟨h1, h2⟩ := hr s
    refine ⟨?_, ?_⟩
    · rw [has_put_other (kl_ne e), h1]
      show _ = (disR z j s || decide (nmB (z j) = s))
      rw [decide_eq_false (fun h => e h.symm)]; simp
    · rw [atKey_put_other (kl_ne e)]; exact h2
theorem MF.put {b n : Nat} {D : DataW Value} {z y : Nat → Int} {j : Nat} (hn : n ≤ j) (hD : IsMap D) (hno : fstR z y j (nmB (z j)) = none) (hr : ∀ s, Maps.has D (kl s) = (fstR z y j s).isSome ∧ D.atKey (kl s) (.held (.int .i64 0)) = .held (.int .i64 ((fstR z y j s).getD 0)))
    (ho : W'.ownsMap Yba.prog 9 hv b (n + 1) (D.put (kl (nmB (z j))) (.held (.int .i64 (y j))))) : MF W' b (j + 1) (fstR z y (j + 1)) := by
  refine ⟨n + 1, _, by omega, ho, fun s => ?_⟩
  by_cases e : s = nmB (z j)
  · subst e
    rw [fstR_yes hno rfl]
    exact ⟨by rw [has_put_same hD (show WideAt.IsKeyLit (kl _) from trivial)]; rfl, atKey_put_same hD (show WideAt.IsKeyLit (kl _) from trivial) _ _⟩
  · obtain ⟨h1, h2⟩ := hr s
    have hs : fstR z y (j + 1) s = fstR z y j s := by
      cases hf : fstR z y j s with
      | none => exact fstR_no hf (fun h => e h.symm)
      | some v => exact fstR_old hf
    rw [hs]
    exact ⟨by rw [has_put_other (kl_ne e)]; exact h1, by rw [atKey_put_other (kl_ne e)]; exact h2⟩
theorem disR_same {z : Nat → Int} {j : Nat} (h : disR z j (nmB (z j)) = true) (s : ByteArray) : disR z j s = disR z (j + 1) s := by
  show _ = (disR z j s || decide (nmB (z j) = s))
  by_cases e : nmB (z j) = s
  · subst e; rw [h]; rfl
  · rw [decide_eq_false e]; simp
theorem fstR_same {z y : Nat → Int} {j : Nat} (h : (fstR z y j (nmB (z j))).isSome = true) (s : ByteArray) : fstR z y j s = fstR z y (j + 1) s := by
  cases hf : fstR z y j s with
  | some v => exact (fstR_old hf).symm
  | none =>
    by_cases e : nmB (z j) = s
    · rw [e, hf] at h; cases h
    · exact (fstR_no hf e).symm
theorem Sx.only (h : Sx w W f m1 m2 dis fst oa k oc) : OnlyAt W oa k := by
  obtain ⟨a, cap, hv, hrs⟩ := Rb.of_own (F := onF) (n := k) (fun _ _ => rfl) h.own
  simp only [Value.slice.injEq] at hv
  obtain ⟨rfl, _, rfl⟩ := hv
  by_cases hk : k = 0
  · exact .inl hk
  · rcases hrs with ⟨_, h0⟩ | ⟨g, rfl, hrb⟩
    · omega
    · have hk0 : 0 < k := by omega
      have c0 := hrb.cell (c := 0) hk0 rfl
      have c1 := hrb.cell (c := 1) hk0 rfl
      have c2 := hrb.cell (c := 2) hk0 rfl
      simp only [Nat.zero_mul, Nat.zero_add] at c0 c1 c2
      exact .inr ⟨g, _, _, _, rfl, c0, c1, c2⟩
/-- One more enable_only relation. -/
theorem Sx.push (h : Sx w W f m1 m2 dis fst oa k oc) {W5 w' : World} {a' : Option Addr} {c' : Nat} (hb5 : Below W.heap.size W W5) (hown : w'.ownsRow (w.heap.size + 3) 31 3 (.slice a' (k + 1) c') (k + 1) (flat onF (k + 1))) (hgr : W5.grownBy w' (Value.slice oa k oc).ownBlock) :
    (w'.cell? ⟨w.heap.size + 2, 2, none⟩ = some (.slice oa k oc) ∧ w'.frozen? ⟨w.heap.size + 2, 2, none⟩ = false) ∧ Sx w (w'.setCell ⟨w.heap.size + 2, 2, none⟩ (.slice a' (k + 1) c')) f m1 m2 dis fst a' (k + 1) c' := by
  have hlt := h.lt
  have hsz := hb5.size
  have hbl : ∀ g, g < w.heap.size + 3 → w'.heap[g]? = W.heap[g]? := fun g hg => by
    refine (hgr.block g (by omega) (fun e => ?_)).trans (hb5.block g (by omega))
    rcases h.own.2 with ⟨h', _⟩ | ⟨g', cap, cur, h', hb', _⟩
    · rw [h'] at e; simp [Value.ownBlock] at e
    · rw [h'] at e; simp [Value.ownBlock] at e; omega
  have hrow : w'.heap[w.heap.size + 2]? = some (.cells (swC f w.heap.size oa k oc (w.heap.size + 1)) 28 (0, 0)) := (hbl _ (by omega)).trans h.row
  have hset : ∀ g, g ≠ w.heap.size + 2 → (w'.setCell ⟨w.heap.size + 2, 2, none⟩ (.slice a' (k + 1) c')).heap[g]? = w'.heap[g]? := fun g hg => Below.heap_setCell _ _ _ _ hg
  have hbw : Below w.heap.size w w' := by
    refine ⟨?_, ?_, ?_, ?_, ?_⟩
    · exact (hgr.os.trans (hb5.os.trans h.bel.os))
    · exact (hgr.tape.trans (hb5.tape.trans h.bel.tape))
    · exact (hgr.output.trans (hb5.output.trans h.bel.output))
    · have := hgr.size; have := h.bel.size; omega
    · intro g hg
      exact (hbl g (by omega)).trans (h.bel.block g hg)
  refine ⟨⟨cell_of_row _ _ _ _ _ _ hrow, frozen_of_row _ _ _ _ _ hrow⟩, hbw.setCell (p := ⟨w.heap.size + 2, 2, none⟩) (by show w.heap.size ≤ w.heap.size + 2; omega) _, ?_, ?_, ?_, own_block hown fun g h1 h2 => hset g (by omega)⟩
  · exact h.md.of_block ((hset _ (by omega)).trans (hbl _ (by omega)))
  · exact h.mf.of_block ((hset _ (by omega)).trans (hbl _ (by omega)))
  · exact heap_setCell_same _ _ 2 _ _ _ hrow
end
end Go.Proofs.Ybulkedom
