import Derived.Test.YbulkedomRows
namespace Go.Proofs.Ybulkedom
set_option linter.unusedVariables false

/-! ### the plain side of the stable sort: an array of indices, ordered by (key, index) -/
def lt (kp : Nat → Int) (x y : Nat) : Prop := kp x < kp y ∨ (kp x = kp y ∧ x < y)
theorem lt_trans {kp : Nat → Int} {x y z : Nat} (h : lt kp x y) (k : lt kp y z) : lt kp x z := by
  unfold lt at *; omega
theorem lt_total {kp : Nat → Int} {x y : Nat} (h : x ≠ y) : lt kp x y ∨ lt kp y x := by
  unfold lt; omega
theorem lt_irrefl {kp : Nat → Int} {x : Nat} : ¬ lt kp x x := by unfold lt; omega
theorem lt_asymm {kp : Nat → Int} {x y : Nat} (h : lt kp x y) : ¬ lt kp y x := by unfold lt at *; omega
/-- Of two indices in order the later is less by its key alone. -/
theorem lt_back {kp : Nat → Int} {x y : Nat} (h : x < y) : lt kp y x ↔ kp y < kp x := by unfold lt; omega
theorem lt_fore {kp : Nat → Int} {x y : Nat} (h : x < y) : lt kp x y ↔ ¬ kp y < kp x := by unfold lt; omega

def Srt (kp : Nat → Int) (p : Nat → Nat) (a b : Nat) : Prop := ∀ i j, a ≤ i → i < j → j < b → lt kp (p i) (p j)
def Crs (p : Nat → Nat) (a m b : Nat) : Prop := ∀ i j, a ≤ i → i < m → m ≤ j → j < b → p i < p j
/-- p' is p, the part from a to b in another order. -/
def Re (p p' : Nat → Nat) (a b : Nat) : Prop := ∃ s : Nat → Nat, (∀ i, p' i = p (s i)) ∧ (∀ i j, s i = s j → i = j) ∧ (∀ i, a ≤ i → i < b → a ≤ s i ∧ s i < b) ∧ (∀ i, ¬ (a ≤ i ∧ i < b) → s i = i)

theorem Re.refl (p : Nat → Nat) (a b : Nat) : Re p p a b := ⟨id, fun _ => rfl, fun _ _ h => h, fun i h1 h2 => ⟨h1, h2⟩, fun _ _ => rfl⟩
theorem Re.trans {p q r : Nat → Nat} {a b : Nat} (h : Re p q a b) (k : Re q r a b) : Re p r a b := by
  obtain ⟨s, h1, h2, h3, h4⟩ := h
  obtain ⟨t, k1, k2, k3, k4⟩ := k
  refine ⟨fun i => s (t i), fun i => by rw [k1, h1], fun i j e => k2 _ _ (h2 _ _ e), fun i hi hj => ?_, fun i hi => ?_⟩
  · obtain ⟨e1, e2⟩ := k3 i hi hj
    exact h3 _ e1 e2
  · show s (t i) = i
    rw [k4 i hi, h4 i hi]
theorem Re.wide {p q : Nat → Nat} {a b a' b' : Nat} (h : Re p q a b) (ha : a' ≤ a) (hb : b ≤ b') : Re p q a' b' := by
  obtain ⟨s, h1, h2, h3, h4⟩ := h
  refine ⟨s, h1, h2, fun i hi hj => ?_, fun i hi => h4 i (fun ⟨e1, e2⟩ => hi ⟨by omega, by omega⟩)⟩
  by_cases e : a ≤ i ∧ i < b
  · obtain ⟨e1, e2⟩ := h3 i e.1 e.2
    exact ⟨by omega, by omega⟩
  · rw [h4 i e]; exact ⟨hi, hj⟩
theorem Re.out {p q : Nat → Nat} {a b : Nat} (h : Re p q a b) {i : Nat} (hi : ¬ (a ≤ i ∧ i < b)) : q i = p i := by
  obtain ⟨s, h1, _, _, h4⟩ := h
  rw [h1, h4 i hi]
theorem Re.inn {p q : Nat → Nat} {a b : Nat} (h : Re p q a b) {i : Nat} (h0 : a ≤ i) (h1 : i < b) : ∃ j, a ≤ j ∧ j < b ∧ q i = p j := by
  obtain ⟨s, e, _, h3, _⟩ := h
  exact ⟨s i, (h3 i h0 h1).1, (h3 i h0 h1).2, e i⟩
theorem Re.inj {p q : Nat → Nat} {a b : Nat} (h : Re p q a b) (hp : ∀ i j, p i = p j → i = j) : ∀ i j, q i = q j → i = j := by
  obtain ⟨s, e, h2, _, _⟩ := h
  intro i j hh
  rw [e, e] at hh
  exact h2 _ _ (hp _ _ hh)

/-- Two entries exchanged. -/
def swp (p : Nat → Nat) (x y : Nat) : Nat → Nat := fun i => if i = x then p y else if i = y then p x else p i
theorem Re.swap (p : Nat → Nat) {x y a b : Nat} (hx : a ≤ x ∧ x < b) (hy : a ≤ y ∧ y < b) : Re p (swp p x y) a b := by
  refine ⟨fun i => if i = x then y else if i = y then x else i, fun i => ?_, fun i j e => ?_, fun i h0 h1 => ?_, fun i hi => ?_⟩
  · unfold swp
    show _ = p (if i = x then y else if i = y then x else i)
    split
    · rfl
    · split <;> rfl
  · simp only at e
    split at e <;> split at e <;> (try split at e) <;> (try split at e) <;> omega
  · show a ≤ (if i = x then y else if i = y then x else i) ∧ (if i = x then y else if i = y then x else i) < b
    split
    · exact hy
    · split
      · exact hx
      · exact ⟨h0, h1⟩
  · show (if i = x then y else if i = y then x else i) = i
    have h1 : ¬ i = x := fun e => hi (by rw [e]; exact hx)
    have h2 : ¬ i = y := fun e => hi (by rw [e]; exact hy)
    rw [if_neg h1, if_neg h2]

/-- The parts from a to m and from m to b change places. -/
def rot (p : Nat → Nat) (a m b : Nat) : Nat → Nat := fun i => if a ≤ i ∧ i < a + (b - m) then p (i + (m - a)) else if a + (b - m) ≤ i ∧ i < b then p (i - (b - m)) else p i
theorem Re.rot (p : Nat → Nat) {a m b : Nat} (h1 : a ≤ m) (h2 : m ≤ b) : Re p (rot p a m b) a b := by
  refine ⟨fun i => if a ≤ i ∧ i < a + (b - m) then i + (m - a) else if a + (b - m) ≤ i ∧ i < b then i - (b - m) else i, fun i => ?_, fun i j e => ?_, fun i h0 h1 => ?_, fun i hi => ?_⟩
  · unfold Ybulkedom.rot
    show _ = p (if a ≤ i ∧ i < a + (b - m) then i + (m - a) else if a + (b - m) ≤ i ∧ i < b then i - (b - m) else i)
    split
    · rfl
    · split <;> rfl
  · simp only at e
    split at e <;> split at e <;> (try split at e) <;> (try split at e) <;> omega
  · show a ≤ (if a ≤ i ∧ i < a + (b - m) then i + (m - a) else if a + (b - m) ≤ i ∧ i < b then i - (b - m) else i) ∧ (if a ≤ i ∧ i < a + (b - m) then i + (m - a) else if a + (b - m) ≤ i ∧ i < b then i - (b - m) else i) < b
    split
    · omega
    · split <;> omega
  · show (if a ≤ i ∧ i < a + (b - m) then i + (m - a) else if a + (b - m) ≤ i ∧ i < b then i - (b - m) else i) = i
    rw [if_neg (by omega), if_neg (by omega)]
theorem rot_lo {p : Nat → Nat} {a m b i : Nat} (h1 : a ≤ i) (h2 : i < a + (b - m)) : rot p a m b i = p (i + (m - a)) := by unfold rot; rw [if_pos ⟨h1, h2⟩]
theorem rot_hi {p : Nat → Nat} {a m b i : Nat} (h1 : a + (b - m) ≤ i) (h2 : i < b) : rot p a m b i = p (i - (b - m)) := by unfold rot; rw [if_neg (by omega), if_pos ⟨h1, h2⟩]
theorem rot_out {p : Nat → Nat} {a m b i : Nat} (h0 : a ≤ m) (h1 : m ≤ b) (hi : ¬ (a ≤ i ∧ i < b)) : rot p a m b i = p i := by unfold rot; rw [if_neg (by omega), if_neg (by omega)]

/-- WHAT THE SYMMETRIC MERGE RESTS ON: behind the rotation each half is two sorted parts that cross rightly, and the first half is less than the second. -/
theorem sym_split {kp : Nat → Int} {p : Nat → Nat} {a m b mid s e : Nat} (ham : a ≤ m) (hmb : m ≤ b) (hs1 : Srt kp p a m) (hs2 : Srt kp p m b) (hc : Crs p a m b)
    (has : a ≤ s) (hsm : s ≤ m) (hme : m ≤ e) (heb : e ≤ b) (hn : s + e = mid + m)
    (hL : ∀ i j, a ≤ i → i < s → e ≤ j → j < b → lt kp (p i) (p j)) (hR : ∀ i j, s ≤ i → i < m → m ≤ j → j < e → lt kp (p j) (p i)) :
    (a ≤ mid ∧ mid ≤ b ∧ s ≤ mid ∧ mid ≤ e) ∧ Srt kp (rot p s m e) a s ∧ Srt kp (rot p s m e) s mid ∧ Srt kp (rot p s m e) mid e ∧ Srt kp (rot p s m e) e b ∧ Crs (rot p s m e) a s mid ∧ Crs (rot p s m e) mid e b ∧
      ∀ i j, a ≤ i → i < mid → mid ≤ j → j < b → lt kp (rot p s m e i) (rot p s m e j) := by
  have hmid : mid = s + (e - m) := by omega
  have A : ∀ i, i < s → rot p s m e i = p i := fun i h => rot_out hsm hme (by omega)
  have B : ∀ i, s ≤ i → i < mid → rot p s m e i = p (i + (m - s)) := fun i h1 h2 => rot_lo h1 (by omega)
  have C : ∀ i, mid ≤ i → i < e → rot p s m e i = p (i - (e - m)) := fun i h1 h2 => rot_hi (by omega) h2
  have D : ∀ i, e ≤ i → rot p s m e i = p i := fun i h => rot_out hsm hme (by omega)
  refine ⟨by omega, fun i j h1 h2 h3 => ?_, fun i j h1 h2 h3 => ?_, fun i j h1 h2 h3 => ?_, fun i j h1 h2 h3 => ?_, fun i j h1 h2 h3 h4 => ?_, fun i j h1 h2 h3 h4 => ?_, fun i j h1 h2 h3 h4 => ?_⟩
  · rw [A i (by omega), A j h3]; exact hs1 i j h1 h2 (by omega)
  · rw [B i h1 (by omega), B j (by omega) h3]; exact hs2 _ _ (by omega) (by omega) (by omega)
  · rw [C i h1 (by omega), C j (by omega) h3]; exact hs1 _ _ (by omega) (by omega) (by omega)
  · rw [D i h1, D j (by omega)]; exact hs2 i j (by omega) h2 h3
  · rw [A i h2, B j h3 h4]; exact hc _ _ h1 (by omega) (by omega) (by omega)
  · rw [C i h1 h2, D j h3]; exact hc _ _ (by omega) (by omega) (by omega) h4
  · by_cases e1 : i < s
    · rw [A i e1]
      by_cases e2 : j < e
      · rw [C j h3 e2]; exact hs1 _ _ h1 (by omega) (by omega)
      · rw [D j (by omega)]; exact hL i j h1 e1 (by omega) h4
    · rw [B i (by omega) h2]
      by_cases e2 : j < e
      · rw [C j h3 e2]; exact hR _ _ (by omega) (by omega) (by omega) (by omega)
      · rw [D j (by omega)]; exact hs2 _ _ (by omega) (by omega) h4

/-- Both halves sorted, the first less than the second: all sorted. -/
theorem Srt.join {kp : Nat → Int} {p q r : Nat → Nat} {a mid b : Nat} (h1 : Re p q a mid) (h2 : Re q r mid b) (s1 : Srt kp q a mid) (s2 : Srt kp r mid b) (hlt : ∀ i j, a ≤ i → i < mid → mid ≤ j → j < b → lt kp (p i) (p j)) : Srt kp r a b := by
  intro i j hi hij hj
  by_cases e1 : j < mid
  · rw [h2.out (i := i) (by omega), h2.out (i := j) (by omega)]; exact s1 i j hi hij e1
  · by_cases e2 : mid ≤ i
    · exact s2 i j e2 hij hj
    · rw [h2.out (i := i) (by omega)]
      obtain ⟨i', a1, a2, e⟩ := h1.inn hi (by omega)
      obtain ⟨j', b1, b2, f⟩ := h2.inn (i := j) (by omega) hj
      rw [e, f, h1.out (i := j') (by omega)]
      exact hlt i' j' a1 a2 b1 b2
end Go.Proofs.Ybulkedom
