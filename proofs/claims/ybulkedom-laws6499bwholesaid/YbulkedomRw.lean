import Derived.Test.YbulkedomCmp
import Derived.Deep.MidRow
import Derived.Laws.MakeOwn
import Derived.Laws.AppendOwn
namespace Go.Proofs.Ybulkedom
open Go.RowKit
set_option linter.unusedVariables false

/-- Block g is a row of (at least) n elements of sz cells each; element k holds the cells F k. -/
structure Rb (B t sz : Nat) (W : World) (g n : Nat) (F : Nat → List Value) : Prop where
  base : B ≤ g
  row : ∃ cur : Array Value, W.heap[g]? = some (.cells cur t (0, 0)) ∧ n * sz ≤ cur.size
  len : ∀ k, k < n → (F k).length = sz
  at_ : ∀ k, k < n → W.rangeAt g (k * sz) (F k)

/-- A slice of the call's own. -/
def Rs (B t sz : Nat) (W : World) (a : Option Addr) (n : Nat) (F : Nat → List Value) : Prop :=
  (a = none ∧ n = 0) ∨ ∃ g, a = some ⟨g, 0, none⟩ ∧ Rb B t sz W g n F

section
variable {B t sz : Nat} {W : World} {g n : Nat} {F : Nat → List Value}

theorem Rb.lt (h : Rb B t sz W g n F) : g < W.heap.size := by
  obtain ⟨cur, hg, _⟩ := h.row
  exact (Array.getElem?_eq_some_iff.1 hg).1

theorem idx_lt {k n sz c : Nat} (hk : k < n) (hc : c < sz) : k * sz + c < n * sz := by
  have : (k + 1) * sz ≤ n * sz := Nat.mul_le_mul_right sz hk
  rw [Nat.succ_mul] at this
  omega

theorem Rb.there (h : Rb B t sz W g n F) {k : Nat} (hk : k < n) : W.there g (k * sz) sz := by
  obtain ⟨cur, hg, hs⟩ := h.row
  intro j hj
  have := idx_lt hk hj
  refine ⟨?_, frozen_of_row W _ _ _ _ hg⟩
  rw [cell_of_row _ _ _ _ _ _ hg, Array.getElem?_eq_getElem (by omega)]
  rfl

theorem Rb.cell (h : Rb B t sz W g n F) {k c : Nat} {v : Value} (hk : k < n) (hc : (F k)[c]? = some v) : W.cell? ⟨g, k * sz + c, none⟩ = some v := h.at_ k hk c v hc

theorem Rb.of_block (h : Rb B t sz W g n F) {W' : World} (hb : W'.heap[g]? = W.heap[g]?) : Rb B t sz W' g n F := by
  obtain ⟨cur, hg, hs⟩ := h.row
  exact ⟨h.base, ⟨cur, by rw [hb]; exact hg, hs⟩, h.len, fun k hk j v hv => (World.cell?_of_block (w := W) hb).trans (h.at_ k hk j v hv)⟩

theorem Rb.below (h : Rb B t sz W g n F) {W' : World} {B' : Nat} (hb : Below B' W W') (hg : g < B') : Rb B t sz W' g n F := h.of_block (hb.block g hg)

theorem Rb.set (h : Rb B t sz W g n F) {i c : Nat} (hi : i < n) (hc : c < sz) (u : Value) :
    Rb B t sz (W.setCell ⟨g, i * sz + c, none⟩ u) g n (fun k => if k = i then (F i).set c u else F k) := by
  obtain ⟨cur, hg, hs⟩ := h.row
  have hnew := heap_setCell_same W g (i * sz + c) cur t u hg
  refine ⟨h.base, ⟨_, hnew, by simpa using hs⟩, ?_, ?_⟩
  · intro k hk
    by_cases e : k = i
    · simp [e, h.len i hi]
    · simp [e, h.len k hk]
  · intro k hk j v hv
    by_cases e : k = i
    · subst e
      simp only [if_true] at hv
      have hj : j < sz := by
        have := (List.getElem?_eq_some_iff.1 hv).1
        rw [List.length_set, h.len k hk] at this; exact this
      by_cases e2 : j = c
      · subst e2
        rw [List.getElem?_set_self (by rw [h.len k hk]; exact hj)] at hv
        cases hv
        exact World.cell?_setCell_same _ _ _ (h.at_ k hk j _ (List.getElem?_eq_getElem (by rw [h.len k hk]; exact hj)))
      · rw [List.getElem?_set_ne (Ne.symm e2)] at hv
        rw [World.cell?_setCell_other _ _ _ _ (by simp)]
        exact h.at_ k hk j v hv
    · simp only [e, if_false] at hv
      have hj : j < sz := by
        have := (List.getElem?_eq_some_iff.1 hv).1
        rw [h.len k hk] at this; exact this
      have hne : i * sz + c ≠ k * sz + j := by
        rcases Nat.lt_or_gt_of_ne e with h1 | h1
        · have := idx_lt (sz := sz) h1 hj; omega
        · have := idx_lt (sz := sz) h1 hc; omega
      rw [World.cell?_setCell_other _ _ _ _ (by simp)]
      exact h.at_ k hk j v hv

theorem setCells_heap (g : Nat) : ∀ (vs : List Value) (o : Nat) (W : World) (cur : Array Value) (t : TypeId), W.heap[g]? = some (.cells cur t (0, 0)) → ∃ cur' : Array Value, (W.setCells g o vs).heap[g]? = some (.cells cur' t (0, 0)) ∧ cur'.size = cur.size
  | [], _, _, cur, _, h => ⟨cur, h, rfl⟩
  | v :: r, o, W, cur, t, h => by
    have h1 := heap_setCell_same W g o cur t v h
    obtain ⟨c, hc, hs⟩ := setCells_heap g r (o + 1) _ _ _ h1
    exact ⟨c, hc, by rw [hs]; simp⟩
theorem setCells_other (g : Nat) : ∀ (vs : List Value) (o : Nat) (W : World) (k : Nat), k ≠ g → (W.setCells g o vs).heap[k]? = W.heap[k]?
  | [], _, _, _, _ => rfl
  | v :: r, o, W, k, h => by
    rw [World.setCells, setCells_other g r (o + 1) _ k h, Below.heap_setCell _ _ _ _ h]
theorem setCells_below {B : Nat} {a : World} (g : Nat) (hg : B ≤ g) : ∀ (vs : List Value) (o : Nat) (W : World), Below B a W → Below B a (W.setCells g o vs)
  | [], _, _, h => h
  | v :: r, o, W, h => setCells_below g hg r (o + 1) _ (h.setCell hg v)

theorem Rb.put (h : Rb B t sz W g n F) {i : Nat} (hi : i < n) (cs : List Value) (hc : cs.length = sz) :
    Rb B t sz (W.setCells g (i * sz) cs) g n (fun k => if k = i then cs else F k) := by
  have hth := h.there hi
  obtain ⟨cur, hg, hs⟩ := h.row
  obtain ⟨cur', hg', hs'⟩ := setCells_heap g cs (i * sz) W cur t hg
  refine ⟨h.base, ⟨cur', hg', by omega⟩, ?_, ?_⟩
  · intro k hk
    by_cases e : k = i
    · simp [e, hc]
    · simp [e, h.len k hk]
  · intro k hk
    by_cases e : k = i
    · subst e
      simp only [if_true]
      exact World.rangeAt_setCells_same _ _ _ _ (by rw [hc]; exact hth)
    · simp only [e, if_false]
      refine World.rangeAt_setCells_apart (h.at_ k hk) _ _ _ (.inr ?_)
      rw [h.len k hk, hc]
      rcases Nat.lt_or_gt_of_ne e with h1 | h1
      · have : (k + 1) * sz ≤ i * sz := Nat.mul_le_mul_right sz h1
        rw [Nat.succ_mul] at this; omega
      · have : (i + 1) * sz ≤ k * sz := Nat.mul_le_mul_right sz h1
        rw [Nat.succ_mul] at this; omega

theorem Rb.congr (h : Rb B t sz W g n F) {G : Nat → List Value} (he : ∀ k, k < n → F k = G k) : Rb B t sz W g n G :=
  ⟨h.base, h.row, fun k hk => by rw [← he k hk]; exact h.len k hk, fun k hk => by rw [← he k hk]; exact h.at_ k hk⟩

theorem Rb.made {cap : Nat} {z : Array Value} (hz : z.size = sz) (hpos : 0 < sz) (h : W.ownsRow B t sz (.slice (some ⟨g, 0, none⟩) n cap) n (madeCells z (n * sz)).toList) : Rb B t sz W g n (fun _ => z.toList) := by
  rcases h.2 with ⟨h', _⟩ | ⟨g', cap', cur, h', hb, hg, hn, hm, hs, hx⟩
  · simp at h'
  · simp only [Value.slice.injEq, Option.some.injEq, Addr.mk.injEq, and_true, true_and] at h'
    obtain ⟨rfl, rfl⟩ := h'
    have hle : n * sz ≤ cap * sz := Nat.mul_le_mul_right sz hn
    refine ⟨hb, ⟨cur, hg, by omega⟩, fun k _ => by simpa using hz, fun k hk j v hv => ?_⟩
    have hj : j < sz := by
      have := (List.getElem?_eq_some_iff.1 hv).1
      simp at this; omega
    have hlt := idx_lt hk hj
    rw [cell_of_row _ _ _ _ _ _ hg]
    have e1 : cur.toList[k * sz + j]? = (cur.toList.take (n * sz))[k * sz + j]? := by rw [List.getElem?_take, if_pos hlt]
    rw [← Array.getElem?_toList, e1, hx, Array.getElem?_toList]
    simp only [madeCells, Array.getElem?_map]
    rw [Array.getElem?_eq_getElem (by simpa using hlt)]
    simp only [Array.getElem_range, Option.map_some]
    have em : (k * sz + j) % z.size = j := by rw [hz, Nat.mul_comm, Nat.mul_add_mod, Nat.mod_eq_of_lt hj]
    rw [em]
    have hv' : z[j]? = some v := by rw [← hv]; simp
    obtain ⟨hjz, hz2⟩ := Array.getElem?_eq_some_iff.1 hv'
    rw [getElem!_pos z j hjz, hz2]

/-- All the elements' cells, one behind the other. -/
def flat (F : Nat → List Value) : Nat → List Value
  | 0 => []
  | n + 1 => flat F n ++ F n

theorem flat_len (hF : ∀ k, k < n → (F k).length = sz) : (flat F n).length = n * sz := by
  induction n with
  | zero => simp [flat]
  | succ n ih =>
    rw [flat, List.length_append, ih (fun k hk => hF k (by omega)), hF n (by omega), Nat.succ_mul]

theorem flat_get (hF : ∀ k, k < n → (F k).length = sz) {k j : Nat} (hk : k < n) (hj : j < sz) : (flat F n)[k * sz + j]? = (F k)[j]? := by
  induction n with
  | zero => omega
  | succ n ih =>
    have hl := flat_len (n := n) (fun k hk => hF k (by omega))
    rw [flat]
    by_cases e : k = n
    · subst e
      rw [List.getElem?_append_right (by omega), hl]
      congr 1
      omega
    · have hkn : k < n := by omega
      have := idx_lt (sz := sz) hkn hj
      rw [List.getElem?_append_left (by omega)]
      exact ih (fun k hk => hF k (by omega)) hkn

theorem flat_mem {v : Value} (h : v ∈ flat F n) : ∃ k, k < n ∧ v ∈ F k := by
  induction n with
  | zero => simp [flat] at h
  | succ n ih =>
    rw [flat, List.mem_append] at h
    rcases h with h | h
    · obtain ⟨k, hk, hv⟩ := ih h
      exact ⟨k, by omega, hv⟩
    · exact ⟨n, by omega, h⟩

/-- The row, read from its head on. -/
theorem Rb.news (h : Rb B t sz W g n F) (hpos : 0 < sz) : ∀ j u, (flat F n)[j]? = some u → W.cell? ((⟨g, 0, none⟩ : Addr).add j) = some u := by
  intro j u hu
  have hlt : j < n * sz := by rw [← flat_len h.len]; exact (List.getElem?_eq_some_iff.1 hu).1
  have hk : j / sz < n := by rw [Nat.div_lt_iff_lt_mul hpos]; exact hlt
  have hm : j % sz < sz := Nat.mod_lt _ hpos
  have e : j = j / sz * sz + j % sz := by rw [Nat.mul_comm]; exact (Nat.div_add_mod j sz).symm
  rw [Addr.add_mid, Nat.zero_add]
  rw [e, flat_get h.len hk hm] at hu
  rw [e]
  exact h.at_ _ hk _ _ hu

theorem Rb.of_own {v : Value} (hF : ∀ k, k < n → (F k).length = sz) (h : W.ownsRow B t sz v n (flat F n)) : ∃ a cap, v = .slice a n cap ∧ Rs B t sz W a n F := by
  rcases h.2 with ⟨rfl, rfl⟩ | ⟨g, cap, cur, rfl, hb, hg, hn, hm, hs, hx⟩
  · exact ⟨none, 0, rfl, .inl ⟨rfl, rfl⟩⟩
  · have hle : n * sz ≤ cap * sz := Nat.mul_le_mul_right sz hn
    refine ⟨_, cap, rfl, .inr ⟨g, rfl, hb, ⟨cur, hg, by omega⟩, hF, fun k hk j v hv => ?_⟩⟩
    have hj : j < sz := by
      have := (List.getElem?_eq_some_iff.1 hv).1
      rw [hF k hk] at this; exact this
    have hlt := idx_lt hk hj
    rw [cell_of_row _ _ _ _ _ _ hg]
    have e1 : cur.toList[k * sz + j]? = (cur.toList.take (n * sz))[k * sz + j]? := by rw [List.getElem?_take, if_pos hlt]
    rw [← Array.getElem?_toList, e1, hx, flat_get hF hk hj, hv]
end

theorem Rs.below {B t sz : Nat} {W W' : World} {a : Option Addr} {n : Nat} {F : Nat → List Value} (h : Rs B t sz W a n F) (hb : Below W.heap.size W W') : Rs B t sz W' a n F := by
  rcases h with h | ⟨g, rfl, h⟩
  · exact .inl h
  · exact .inr ⟨g, rfl, h.below hb h.lt⟩
theorem Rs.mono {B B' t sz : Nat} {W : World} {a : Option Addr} {n : Nat} {F : Nat → List Value} (h : Rs B t sz W a n F) (hB : B' ≤ B) : Rs B' t sz W a n F := by
  rcases h with h | ⟨g, rfl, h⟩
  · exact .inl h
  · exact .inr ⟨g, rfl, Nat.le_trans hB h.base, h.row, h.len, h.at_⟩
end Go.Proofs.Ybulkedom
