import Derived.Test.YbulkedlgDoorSt
namespace Go.Proofs.YbulkedlgDoor
open Go.RowKit
set_option linter.unusedVariables false

/-- The plain input, out of the arguments. -/
def mkI (al : Int) (sz : Nat → Int) (n : Nat) (fst : Nat → Int) (m : Nat → Nat) (lst own : Nat → Nat → Int) (K : Nat → Option Nat) (Bf : Nat → Nat) : Inp :=
  { n := n, f := fun i => 2 + (fst i % 62).toNat, m := m, lst := lst, p := fun i j => (own i j % 3).toNat, K := K, Bf := Bf, sz := sz, al := al }

theorem St.of_blocks {W W' : World} {pb gb f m : Nat} {lst : Nat → Int} {p : Nat → Nat} {gc : Nat → Nat} (h : St W pb gb f m lst p gc) (h1 : W'.heap[gb]? = W.heap[gb]?) (h2 : ∀ j, j < m → W'.heap[gc j]? = W.heap[gc j]?) : St W' pb gb f m lst p gc :=
  ⟨fun j hj => by rw [World.cell?_of_block (w := W) h1]; exact h.row j hj, h.rne, fun j hj => by rw [h2 j hj]; exact h.band j hj, h.bne⟩

/-- The starts laid so far, k of them. -/
structure Bd (w W : World) (pb k : Nat) (I : Inp) (v0 : Nat → Int) (gb : Nat → Nat) (gc : Nat → Nat → Nat) : Prop where
  s0 : S0 w W I.sz
  hpb : w.heap.size + 1 = pb
  p : PoolAt W pb v0
  e : PoolAt W (pb + 1) v0
  r : ∃ F, Rb (pb + 2) 43 2 W (pb + 2) I.n F ∧ ∀ i, i < k → F i = [.int .i64 (I.f i), .slice (some ⟨gb i, 0, none⟩) (I.m i) (I.m i)]
  st : ∀ i, i < k → St W pb (gb i) (I.f i) (I.m i) (I.lst i) (I.p i) (gc i)
  lo : ∀ i, i < k → pb + 3 ≤ gb i ∧ gb i < W.heap.size ∧ ∀ j, j < I.m i → pb + 3 ≤ gc i j ∧ gc i j < W.heap.size

theorem Bd.below {w W W' : World} {pb k : Nat} {I : Inp} {v0 : Nat → Int} {gb : Nat → Nat} {gc : Nat → Nat → Nat} (h : Bd w W pb k I v0 gb gc) (hb : Below W.heap.size W W') : Bd w W' pb k I v0 gb gc := by
  obtain ⟨F, hr, hF⟩ := h.r
  have hp := h.hpb
  have hsz := hb.size
  have h2 := hr.lt
  refine ⟨h.s0.later (hb.mono (by omega)), hp, h.p.of_block (hb.block _ h.p.lt), h.e.of_block (hb.block _ h.e.lt), ⟨F, hr.below hb h2, hF⟩, fun i hi => (h.st i hi).of_blocks (hb.block _ (h.lo i hi).2.1) (fun j hj => hb.block _ ((h.lo i hi).2.2 j hj).2), fun i hi => ?_⟩
  obtain ⟨a, b, c⟩ := h.lo i hi
  exact ⟨a, by omega, fun j hj => ⟨(c j hj).1, by have := (c j hj).2; omega⟩⟩

/-- One start's bands, j of them laid. -/
structure Bi (W : World) (pb f GB m j : Nat) (lst : Nat → Int) (p : Nat → Nat) (gcj : Nat → Nat) : Prop where
  row : ∃ F, Rb (pb + 3) 37 1 W GB m F ∧ ∀ q, q < j → F q = [.pointer (some ⟨gcj q, 0, none⟩)]
  band : ∀ q, q < j → W.heap[gcj q]? = some (.cells (bandC pb f (lst q) (p q)) 41 (0, 0))
  lo : ∀ q, q < j → GB < gcj q

/-- A band made and its pointer stored. -/
theorem Bi.step {W : World} {pb f GB m j : Nat} {lst : Nat → Int} {p : Nat → Nat} {gcj : Nat → Nat} (h : Bi W pb f GB m j lst p gcj) (hj : j < m) (o : Obj) :
    Bi (((W.setCell ⟨GB, j, none⟩ (.pointer (some ⟨W.heap.size + 1, 0, none⟩))).alloc o).alloc (.cells (bandC pb f (lst j) (p j)) 41)) pb f GB m (j + 1) lst p (fun q => if q = j then W.heap.size + 1 else gcj q) := by
  obtain ⟨F, hr, hF⟩ := h.row
  have hlt := hr.lt
  have hsz : (W.setCell ⟨GB, j, none⟩ (.pointer (some ⟨W.heap.size + 1, 0, none⟩))).heap.size = W.heap.size := by simp [World.setCell]
  have hset := hr.set hj (c := 0) (by omega) (.pointer (some ⟨W.heap.size + 1, 0, none⟩))
  rw [Nat.mul_one, Nat.add_zero] at hset
  have hbelow : Below W.heap.size (W.setCell ⟨GB, j, none⟩ (.pointer (some ⟨W.heap.size + 1, 0, none⟩))) (((W.setCell ⟨GB, j, none⟩ (.pointer (some ⟨W.heap.size + 1, 0, none⟩))).alloc o).alloc (.cells (bandC pb f (lst j) (p j)) 41)) :=
    ((Below.refl _ _).alloc (by omega) o).alloc (by simp [hsz]) _
  have hF1 := hr.len j hj
  refine ⟨⟨_, hset.below hbelow hlt, fun q hq => ?_⟩, fun q hq => ?_, fun q hq => ?_⟩
  · by_cases e : q = j
    · subst e
      simp only [if_true]
      match F q, hF1 with
      | [x], _ => rfl
    · simp only [e, if_false]
      exact hF q (by omega)
  · by_cases e : q = j
    · subst e
      simp only [if_true]
      have hz2 : W.heap.size + 1 = ((W.setCell ⟨GB, q, none⟩ (.pointer (some ⟨W.heap.size + 1, 0, none⟩))).alloc o).heap.size := by simp [hsz]
      have := heap_alloc_new ((W.setCell ⟨GB, q, none⟩ (.pointer (some ⟨W.heap.size + 1, 0, none⟩))).alloc o) (.cells (bandC pb f (lst q) (p q)) 41)
      rw [← hz2] at this
      exact this
    · simp only [e, if_false]
      have hb := h.band q (by omega)
      have hlo := h.lo q (by omega)
      have hqlt := (Array.getElem?_eq_some_iff.1 hb).1
      rw [hbelow.block _ hqlt, Below.heap_setCell _ _ _ _ (by simp; omega)]
      exact hb
  · by_cases e : q = j
    · subst e; simp; omega
    · simp only [e, if_false]; exact h.lo q (by omega)

/-- One start's element stored. -/
theorem Bd.step {w W W' : World} {pb i GB : Nat} {I : Inp} {v0 : Nat → Int} {gb : Nat → Nat} {gc : Nat → Nat → Nat} {gcj : Nat → Nat} (h : Bd w W pb i I v0 gb gc) (hi : i < I.n) (hb : Below W.heap.size W W') (hGB : W.heap.size = GB)
    (hB : Bi W' pb (I.f i) GB (I.m i) (I.m i) (I.lst i) (I.p i) gcj) :
    Bd w (W'.setCells (pb + 2) (i * 2) [.int .i64 (I.f i), .slice (some ⟨GB, 0, none⟩) (I.m i) (I.m i)]) pb (i + 1) I v0 (fun q => if q = i then GB else gb q) (fun q => if q = i then gcj else gc q) := by
  have h' := h.below hb
  obtain ⟨F, hr, hF⟩ := h'.r
  obtain ⟨F0, hr0, _⟩ := h.r
  have hp := h.hpb
  have hlt2 := hr0.lt
  have hnew : ∀ b, b ≠ pb + 2 → (W'.setCells (pb + 2) (i * 2) [.int .i64 (I.f i), .slice (some ⟨GB, 0, none⟩) (I.m i) (I.m i)]).heap[b]? = W'.heap[b]? := fun b hb => setCells_other (pb + 2) _ _ _ b hb
  have hsz : (W'.setCells (pb + 2) (i * 2) [.int .i64 (I.f i), .slice (some ⟨GB, 0, none⟩) (I.m i) (I.m i)]).heap.size = W'.heap.size := by simp [World.setCells, World.setCell]
  obtain ⟨F1, hrB, hFB⟩ := hB.row
  refine ⟨⟨setCells_below (pb + 2) (by omega) _ _ _ h'.s0.bel, by rw [hnew _ (by omega)]; exact h'.s0.szs⟩, hp, h'.p.of_block (hnew _ (by omega)), h'.e.of_block (hnew _ (by omega)), ⟨_, hr.put hi _ rfl, fun q hq => ?_⟩, fun q hq => ?_, fun q hq => ?_⟩
  · by_cases e : q = i
    · subst e; simp
    · simp only [e, if_false]; exact hF q (by omega)
  · by_cases e : q = i
    · subst e
      simp only [if_true]
      refine ⟨fun j hj => ?_, by have := hrB.base; omega, fun j hj => ?_, fun j hj => by have := hB.lo j hj; have := hrB.base; omega⟩
      · rw [World.cell?_of_block (w := W') (hnew GB (by have := hrB.base; omega))]
        have := hrB.cell (c := 0) (v := .pointer (some ⟨gcj j, 0, none⟩)) hj (by rw [hFB j hj]; rfl)
        simpa using this
      · rw [hnew _ (by have := hB.lo j hj; have := hrB.base; omega)]
        exact hB.band j hj
    · simp only [e, if_false]
      have hq' : q < i := by omega
      obtain ⟨l1, l2, l3⟩ := h'.lo q hq'
      exact (h'.st q hq').of_blocks (hnew _ (by omega)) (fun j hj => hnew _ (by have := (l3 j hj).1; omega))
  · rw [hsz]
    by_cases e : q = i
    · subst e
      simp only [if_true]
      refine ⟨by have := hrB.base; omega, hrB.lt, fun j hj => ⟨by have := hB.lo j hj; have := hrB.base; omega, (Array.getElem?_eq_some_iff.1 (hB.band j hj)).1⟩⟩
    · simp only [e, if_false]
      exact h'.lo q (by omega)

theorem Bd.gr {w W : World} {pb : Nat} {I : Inp} {v0 : Nat → Int} {gb : Nat → Nat} {gc : Nat → Nat → Nat} (h : Bd w W pb I.n I v0 gb gc) : Gr W pb (pb + 2) I gb gc := by
  obtain ⟨F, hr, hF⟩ := h.r
  refine ⟨by omega, fun i hi => ?_, fun i hi => ?_, h.st⟩
  · have := hr.cell (c := 0) (v := .int .i64 (I.f i)) hi (by rw [hF i hi]; rfl)
    simpa using this
  · exact hr.cell (c := 1) (v := .slice (some ⟨gb i, 0, none⟩) (I.m i) (I.m i)) hi (by rw [hF i hi]; rfl)
end Go.Proofs.YbulkedlgDoor
