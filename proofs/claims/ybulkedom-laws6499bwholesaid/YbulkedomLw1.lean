import Derived.Test.YbulkedomLw0
namespace Go.Proofs.Ybulkedom
open Go.RowKit Go.Maps
set_option linter.unusedVariables false

theorem info9' : (Yba.prog.info? 9).map (fun i => (i.zero, i.size, i.bytes)) = some (some (.string ⟨#[]⟩), 1, 16) := by kernel_rfl
theorem info3' : (Yba.prog.info? 3).map (fun i => (i.zero, i.size, i.bytes)) = some (some (.int .i64 0), 1, 8) := by kernel_rfl
theorem info4' : (Yba.prog.info? 4).map (fun i => (i.zero, i.size, i.bytes)) = some (some (.bool false), 1, 1) := by kernel_rfl
theorem at_op {P : Program} {ops : Array Oper} {rest : List Oper} {op : Oper} {a : Act} {w : World} {Q : Exit → Act → World → Prop} (o : Op) (_ : op.op = o) (k : wpList P ops Q (op :: rest) a w) : wpList P ops Q (op :: rest) a w := k
theorem cell_one_new (w : World) (v : Value) (t : TypeId) : ∀ j u, [v][j]? = some u → (w.alloc (.cells #[v] t)).cell? ((⟨w.heap.size, 0, none⟩ : Addr).add j) = some u := by
  intro j u hu
  rw [Addr.add_mid, Nat.zero_add, cell_of_row _ _ _ _ _ _ (heap_alloc_new w _)]
  simpa using hu
/-- Two rows of the call's own of other kinds: an append to the one leaves the other. -/
theorem own_apart {W W' w1 : World} {B B' e1 e2 z1 z2 n m : Nat} {s t : Value} {xs ys : List Value} (hne : e1 ≠ e2) (hs : W.ownsRow B e1 z1 s n xs) (ht : W.ownsRow B' e2 z2 t m ys) (hb : Below W.heap.size W W') (hg : W'.grownBy w1 s.ownBlock) : w1.ownsRow B' e2 z2 t m ys := by
  refine ⟨ht.1, ?_⟩
  rcases ht.2 with h' | ⟨g, cap, cur, h', hb', hg', hr⟩
  · exact .inl h'
  · have hlt := (Array.getElem?_eq_some_iff.1 hg').1
    refine .inr ⟨g, cap, cur, h', hb', ?_, hr⟩
    refine (hg.block g (Nat.lt_of_lt_of_le hlt hb.size) (fun e => ?_)).trans ((hb.block g hlt).trans hg')
    rcases hs.2 with ⟨h2, _⟩ | ⟨g2, cap2, cur2, h2, _, hg2, _⟩
    · rw [h2] at e; simp [Value.ownBlock] at e
    · rw [h2] at e; simp [Value.ownBlock] at e
      subst e
      rw [hg2] at hg'
      simp at hg'
      exact hne hg'.2
theorem own_base {W : World} {B e z n : Nat} {s : Value} {xs : List Value} (hs : W.ownsRow B e z s n xs) : ∀ k, s.ownBlock = some k → B ≤ k := fun k hk => by
  rcases hs.2 with ⟨h2, _⟩ | ⟨g2, cap2, cur2, h2, hb, _⟩
  · rw [h2] at hk; simp [Value.ownBlock] at hk
  · rw [h2] at hk; simp [Value.ownBlock] at hk; omega
def plV (fst : ByteArray → Option Int) (x : ByteArray) : Value := .int .i64 ((fst x).getD 0)
/-- The names and places that the law itself gathers. -/
structure Kn (W0 W : World) (fst : ByteArray → Option Int) (s t : Value) (l : List ByteArray) : Prop where
  bel : Below W0.heap.size W0 W
  nm : W.ownsRow W0.heap.size 9 1 s l.length (l.map Value.string)
  pl : W.ownsRow W0.heap.size 3 1 t l.length (l.map (plV fst))
theorem Kn.new (W0 : World) (fst : ByteArray → Option Int) : Kn W0 W0 fst (.slice none 0 0) (.slice none 0 0) [] := ⟨Below.refl _ _, ⟨rfl, .inl ⟨rfl, rfl⟩⟩, ⟨rfl, .inl ⟨rfl, rfl⟩⟩⟩
theorem Kn.add {W0 W w1 w2 : World} {fst : ByteArray → Option Int} {s t s' t' : Value} {l : List ByteArray} {x : ByteArray} {o1 o2 : Obj} (h : Kn W0 W fst s t l)
    (h1 : w1.ownsRow W0.heap.size 9 1 s' (l.length + 1) (l.map Value.string ++ [.string x])) (g1 : (W.alloc o1).grownBy w1 s.ownBlock)
    (h2 : w2.ownsRow W0.heap.size 3 1 t' (l.length + 1) (l.map (plV fst) ++ [plV fst x])) (g2 : (w1.alloc o2).grownBy w2 t.ownBlock) : Kn W0 w2 fst s' t' (l ++ [x]) := by
  have hb1 : Below W.heap.size W (W.alloc o1) := (Below.refl _ _).alloc (Nat.le_refl _) _
  have hb2 : Below w1.heap.size w1 (w1.alloc o2) := (Below.refl _ _).alloc (Nat.le_refl _) _
  have ht1 := own_apart (by decide) h.nm h.pl hb1 g1
  have hbl1 : Below W0.heap.size W0 w1 := (h.bel.alloc h.bel.size _).grown g1 (by have := h.bel.size; simp; omega) (own_base h.nm)
  refine ⟨(hbl1.alloc hbl1.size _).grown g2 (by have := hbl1.size; simp; omega) (own_base h.pl), ?_, ?_⟩
  · rw [List.length_append, List.map_append]
    exact own_apart (by decide) ht1 h1 hb2 g2
  · rw [List.length_append, List.map_append]
    exact h2
theorem Kn.pl1 {W0 W w1 : World} {fst : ByteArray → Option Int} {s t : Value} {l : List ByteArray} {o1 : Obj} (h : Kn W0 W fst s t l) (g1 : (W.alloc o1).grownBy w1 s.ownBlock) : w1.ownsRow W0.heap.size 3 1 t l.length (l.map (plV fst)) ∧ W0.heap.size ≤ w1.heap.size := by
  have hb1 : Below W.heap.size W (W.alloc o1) := (Below.refl _ _).alloc (Nat.le_refl _) _
  have hbl1 : Below W0.heap.size W0 w1 := (h.bel.alloc h.bel.size _).grown g1 (by have := h.bel.size; simp; omega) (own_base h.nm)
  exact ⟨own_apart (by decide) h.nm h.pl hb1 g1, hbl1.size⟩
theorem own_open {W : World} {B e n : Nat} {s : Value} {xs : List Value} (hs : W.ownsRow B e 1 s n xs) : ∃ a c, s = .slice a n c ∧ (n = 0 ∨ ∃ g, a = some ⟨g, 0, none⟩ ∧ B ≤ g ∧ g < W.heap.size ∧ ∀ j v, xs[j]? = some v → W.cell? ⟨g, j, none⟩ = some v) := by
  rcases hs.2 with ⟨rfl, rfl⟩ | ⟨g, cap, cur, rfl, hb, hg, hn, hm, hsz, hx⟩
  · exact ⟨none, 0, rfl, .inl rfl⟩
  · refine ⟨_, cap, rfl, .inr ⟨g, rfl, hb, (Array.getElem?_eq_some_iff.1 hg).1, fun j v hv => ?_⟩⟩
    have hj : j < n := by
      have := (List.getElem?_eq_some_iff.1 hv).1
      rw [hs.1] at this; omega
    rw [cell_of_row _ _ _ _ _ _ hg, ← Array.getElem?_toList]
    have e1 : cur.toList[j]? = (cur.toList.take (n * 1))[j]? := by rw [List.getElem?_take, if_pos (by omega)]
    rw [e1, hx, hv]
theorem nmF_get {l : List ByteArray} {j : Nat} (h : j < l.length) : l[j]? = some (nmF l j) := by
  unfold nmF
  rw [List.getD_eq_getElem?_getD, List.getElem?_eq_getElem h]; rfl
theorem Kn.open {W0 W : World} {fst : ByteArray → Option Int} {s t : Value} {l : List ByteArray} (h : Kn W0 W fst s t l) : ∃ ka kc pa pc, s = .slice ka l.length kc ∧ t = .slice pa l.length pc ∧ (l.length = 0 ∨ ∃ g1 g2, ka = some ⟨g1, 0, none⟩ ∧ pa = some ⟨g2, 0, none⟩ ∧ g1 < W.heap.size ∧ g2 < W.heap.size ∧ ∀ j, j < l.length → W.cell? ⟨g1, j, none⟩ = some (.string (nmF l j)) ∧ W.cell? ⟨g2, j, none⟩ = some (.int .i64 (plF fst l j))) := by
  obtain ⟨ka, kc, hs, h1⟩ := own_open h.nm
  obtain ⟨pa, pc, ht, h2⟩ := own_open h.pl
  refine ⟨ka, kc, pa, pc, hs, ht, ?_⟩
  rcases h1 with h1 | ⟨g1, e1, _, l1, c1⟩
  · exact .inl h1
  · rcases h2 with h2 | ⟨g2, e2, _, l2, c2⟩
    · exact .inl h2
    · refine .inr ⟨g1, g2, e1, e2, l1, l2, fun j hj => ⟨c1 j _ ?_, c2 j _ ?_⟩⟩
      · rw [List.getElem?_map, nmF_get hj]; rfl
      · rw [List.getElem?_map, nmF_get hj]; rfl
end Go.Proofs.Ybulkedom
