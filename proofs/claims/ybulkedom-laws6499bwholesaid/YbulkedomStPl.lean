import Derived.Test.YbulkedomSyPl
namespace Go.Proofs.Ybulkedom
set_option linter.unusedVariables false

/-! ### the blocks of the stable sort -/
theorem blk_lt {s t T : Nat} (h : t < T) : t * s + s ≤ T * s := by
  have := Nat.mul_le_mul_right s h
  rw [Nat.succ_mul] at this; exact this
/-- Sorted in each block, as far as A. -/
def G1 (kp : Nat → Int) (s A : Nat) (q : Nat → Nat) : Prop := ∀ t i j, t * s ≤ i → i < j → j < t * s + s → j < A → lt kp (q i) (q j)
/-- Each block holds its own. -/
def G2 (s : Nat) (q : Nat → Nat) : Prop := ∀ t i, t * s ≤ i → i < t * s + s → t * s ≤ q i ∧ q i < t * s + s
/-- What the blocks from A on still have. -/
def G3 (kp : Nat → Int) (s A n : Nat) (q : Nat → Nat) : Prop := ∀ t, A ≤ t * s → (∀ i, t * s ≤ i → i < t * s + s → t * s ≤ q i ∧ q i < t * s + s) ∧ (∀ i j, t * s ≤ i → i < j → j < t * s + s → j < n → lt kp (q i) (q j))

theorem G2.id (s : Nat) : G2 s (fun i => i) := fun t i h1 h2 => ⟨h1, h2⟩
theorem G1.zero (kp : Nat → Int) (s : Nat) (q : Nat → Nat) : G1 kp s 0 q := fun t i j _ _ _ h => absurd h (Nat.not_lt_zero _)
theorem G2.put {s A E T : Nat} {q q' : Nat → Nat} (h : G2 s q) (hA : A = T * s) (hE : E ≤ A + s) (hR : Re q q' A E) : G2 s q' := by
  intro t i h1 h2
  by_cases hi : A ≤ i ∧ i < E
  · obtain ⟨j, j1, j2, e⟩ := hR.inn hi.1 hi.2
    have ht : t = T := by
      rcases Nat.lt_trichotomy t T with x | x | x
      · have := blk_lt (s := s) x; omega
      · exact x
      · have := blk_lt (s := s) x; omega
    rw [e, ht]
    exact h T j (by omega) (by omega)
  · rw [hR.out hi]; exact h t i h1 h2
theorem G1.put {kp : Nat → Int} {s A E T : Nat} {q q' : Nat → Nat} (h : G1 kp s A q) (hA : A = T * s) (hE : E ≤ A + s) (hR : Re q q' A E) (hS : Srt kp q' A E) : G1 kp s E q' := by
  intro t i j h1 h2 h3 h4
  rcases Nat.lt_trichotomy t T with x | x | x
  · have := blk_lt (s := s) x
    rw [hR.out (i := i) (by omega), hR.out (i := j) (by omega)]
    exact h t i j h1 h2 h3 (by omega)
  · subst x
    exact hS i j (by omega) h2 h4
  · have := blk_lt (s := s) x; omega
theorem G3.of {kp : Nat → Int} {s n : Nat} {q : Nat → Nat} (h1 : G1 kp s n q) (h2 : G2 s q) : G3 kp s 0 n q := fun t _ => ⟨h2 t, h1 t⟩
theorem G3.put {kp : Nat → Int} {s A E n : Nat} {q q' : Nat → Nat} (h : G3 kp s A n q) (hE : A ≤ E) (hR : Re q q' A E) : G3 kp s E n q' := by
  intro t ht
  obtain ⟨a, b⟩ := h t (by omega)
  refine ⟨fun i h1 h2 => ?_, fun i j h1 h2 h3 h4 => ?_⟩
  · rw [hR.out (i := i) (by omega)]; exact a i h1 h2
  · rw [hR.out (i := i) (by omega), hR.out (i := j) (by omega)]; exact b i j h1 h2 h3 h4
theorem G2.dbl {s : Nat} {q : Nat → Nat} (h : G2 s q) : G2 (2 * s) q := by
  intro t i h1 h2
  have e : t * (2 * s) = (2 * t) * s := by rw [← Nat.mul_assoc, Nat.mul_comm t 2]
  have e1 : (2 * t + 1) * s = (2 * t) * s + s := Nat.succ_mul _ _
  rw [e] at h1 h2 ⊢
  by_cases hi : i < (2 * t) * s + s
  · have := h (2 * t) i h1 hi; omega
  · have := h (2 * t + 1) i (by omega) (by omega); omega
/-- What symMerge asks for. -/
theorem G3.pre {kp : Nat → Int} {s A n T : Nat} {q : Nat → Nat} (h : G3 kp s A n q) (hA : A = T * (2 * s)) {b : Nat} (hb : b ≤ A + 2 * s) (hbn : b ≤ n) :
    (A + s ≤ b → Srt kp q A (A + s)) ∧ Srt kp q (A + s) b ∧ Crs q A (A + s) b ∧ (b ≤ A + s → Srt kp q A b) := by
  have e : T * (2 * s) = (2 * T) * s := by rw [← Nat.mul_assoc, Nat.mul_comm T 2]
  have e1 : (2 * T + 1) * s = (2 * T) * s + s := Nat.succ_mul _ _
  obtain ⟨a1, b1⟩ := h (2 * T) (by omega)
  obtain ⟨a2, b2⟩ := h (2 * T + 1) (by omega)
  refine ⟨fun h0 i j h1 h2 h3 => b1 i j (by omega) h2 (by omega) (by omega), fun i j h1 h2 h3 => b2 i j (by omega) h2 (by omega) (by omega), fun i j h1 h2 h3 h4 => ?_, fun h0 i j h1 h2 h3 => b1 i j (by omega) h2 (by omega) (by omega)⟩
  have := a1 i (by omega) (by omega)
  have := a2 j (by omega) (by omega)
  omega
theorem G1.all {kp : Nat → Int} {s n : Nat} {q : Nat → Nat} (h : G1 kp s n q) (hs : n ≤ s) : Srt kp q 0 n := fun i j h1 h2 h3 => h 0 i j (by omega) h2 (by omega) h3
theorem G2.inc {s T : Nat} {q : Nat → Nat} {A b : Nat} (hq : ∀ i, A ≤ i → q i = i) : ∀ c d, A ≤ c → c < d → d < b → q c < q d := fun c d h1 h2 h3 => by rw [hq c h1, hq d (by omega)]; exact h2
end Go.Proofs.Ybulkedom
