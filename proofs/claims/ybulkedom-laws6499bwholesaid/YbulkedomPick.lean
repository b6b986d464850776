import Derived.Test.YbulkedomPl
namespace Go.Proofs.Ybulkedom
set_option linter.unusedVariables false

/-! ### what the law's own selection finds -/
theorem surj : ∀ (r : Nat) (q : Nat → Nat), (∀ i, i < r → q i < r) → (∀ i j, i < r → j < r → q i = q j → i = j) → ∀ b, b < r → ∃ t, t < r ∧ q t = b := by
  intro r
  induction r with
  | zero => intro q _ _ b hb; omega
  | succ r ih =>
    intro q hq hi b hb
    by_cases hbv : b = q r
    · exact ⟨r, by omega, hbv.symm⟩
    · have hq' : ∀ i, i < r → (if q i = r then q r else q i) < r := fun i hir => by
        by_cases e : q i = r
        · rw [if_pos e]
          have h1 := hq r (by omega)
          have : q r ≠ r := fun h => by have := hi i r (by omega) (by omega) (by rw [e, h]); omega
          omega
        · rw [if_neg e]; have := hq i (by omega); omega
      have hi' : ∀ i j, i < r → j < r → (if q i = r then q r else q i) = (if q j = r then q r else q j) → i = j := fun i j hir hjr h => by
        by_cases e1 : q i = r
        · by_cases e2 : q j = r
          · exact hi i j (by omega) (by omega) (by rw [e1, e2])
          · rw [if_pos e1, if_neg e2] at h
            have := hi r j (by omega) (by omega) h
            omega
        · by_cases e2 : q j = r
          · rw [if_neg e1, if_pos e2] at h
            have := hi i r (by omega) (by omega) h
            omega
          · rw [if_neg e1, if_neg e2] at h
            exact hi i j (by omega) (by omega) h
      have hvr := hq r (by omega)
      obtain ⟨t, ht, he⟩ := ih (fun i => if q i = r then q r else q i) hq' hi' (if b = r then q r else b) (by
        by_cases e : b = r
        · rw [if_pos e]; omega
        · rw [if_neg e]; omega)
      refine ⟨t, by omega, ?_⟩
      by_cases e : b = r
      · rw [if_pos e] at he
        by_cases e1 : q t = r
        · rw [e1, e]
        · rw [if_neg e1] at he
          have := hi t r (by omega) (by omega) he
          omega
      · rw [if_neg e] at he
        by_cases e1 : q t = r
        · rw [if_pos e1] at he
          exact absurd he.symm hbv
        · rw [if_neg e1] at he; exact he

/-- Is the entry used up behind j steps? -/
def usR (q : Nat → Nat) : Nat → Nat → Bool
  | 0, _ => false
  | j + 1, x => usR q j x || decide (q j = x)
theorem usR_true {q : Nat → Nat} {j x : Nat} (h : usR q j x = true) : ∃ t, t < j ∧ q t = x := by
  induction j with
  | zero => simp [usR] at h
  | succ j ih =>
    simp only [usR, Bool.or_eq_true, decide_eq_true_eq] at h
    rcases h with h | h
    · obtain ⟨t, a, b⟩ := ih h; exact ⟨t, by omega, b⟩
    · exact ⟨j, by omega, h⟩
theorem usR_of {q : Nat → Nat} {j t : Nat} (h : t < j) : usR q j (q t) = true := by
  induction j with
  | zero => omega
  | succ j ih =>
    simp only [usR, Bool.or_eq_true, decide_eq_true_eq]
    by_cases e : t = j
    · right; rw [e]
    · left; exact ih (by omega)

/-- The best of the first i that are not used up. -/
def Best (pl : Nat → Int) (us : Nat → Bool) (i : Nat) (b : Int) : Prop := (b = -1 ∧ ∀ x, x < i → us x = true) ∨ ∃ c : Nat, b = (c : Int) ∧ c < i ∧ us c = false ∧ ∀ x, x < i → us x = false → x ≠ c → lt pl c x
theorem Best.start (pl : Nat → Int) (us : Nat → Bool) : Best pl us 0 (-1) := .inl ⟨rfl, fun x h => by omega⟩
theorem Best.used {pl : Nat → Int} {us : Nat → Bool} {i : Nat} {b : Int} (h : Best pl us i b) (hu : us i = true) : Best pl us (i + 1) b := by
  rcases h with ⟨h1, h2⟩ | ⟨c, h1, h2, h3, h4⟩
  · refine .inl ⟨h1, fun x hx => ?_⟩
    by_cases e : x = i
    · rw [e]; exact hu
    · exact h2 x (by omega)
  · refine .inr ⟨c, h1, by omega, h3, fun x hx hux hne => ?_⟩
    by_cases e : x = i
    · rw [e, hu] at hux; cases hux
    · exact h4 x (by omega) hux hne
theorem Best.new {pl : Nat → Int} {us : Nat → Bool} {i : Nat} (h : Best pl us i (-1)) (hu : us i = false) : Best pl us (i + 1) (i : Int) := by
  rcases h with ⟨h1, h2⟩ | ⟨c, h1, _⟩
  · refine .inr ⟨i, rfl, by omega, hu, fun x hx hux hne => ?_⟩
    rw [h2 x (by omega)] at hux; cases hux
  · omega
theorem Best.less {pl : Nat → Int} {us : Nat → Bool} {i c : Nat} (h : Best pl us i (c : Int)) (hu : us i = false) (hl : pl i < pl c) : Best pl us (i + 1) (i : Int) := by
  rcases h with ⟨h1, _⟩ | ⟨c', h1, h2, h3, h4⟩
  · omega
  · obtain rfl : c = c' := by omega
    have hic : lt pl i c := (lt_back h2).2 hl
    refine .inr ⟨i, rfl, by omega, hu, fun x hx hux hne => ?_⟩
    by_cases e : x = c
    · rw [e]; exact hic
    · exact lt_trans hic (h4 x (by omega) hux e)
theorem Best.keep {pl : Nat → Int} {us : Nat → Bool} {i c : Nat} (h : Best pl us i (c : Int)) (hl : ¬ pl i < pl c) : Best pl us (i + 1) (c : Int) := by
  rcases h with ⟨h1, _⟩ | ⟨c', h1, h2, h3, h4⟩
  · omega
  · obtain rfl : c = c' := by omega
    refine .inr ⟨c, rfl, by omega, h3, fun x hx hux hne => ?_⟩
    by_cases e : x = i
    · rw [e]; exact (lt_fore h2).2 hl
    · exact h4 x (by omega) hux hne
/-- The best of all that are left is the next of the sorted ones. -/
theorem Best.last {pl : Nat → Int} {q : Nat → Nat} {r j : Nat} {b : Int} (hS : Srt pl q 0 r) (hR : Re (fun i => i) q 0 r) (hj : j < r) (h : Best pl (usR q j) r b) : b = (q j : Int) := by
  obtain ⟨s, s1, s2, s3, s4⟩ := hR
  have hq : ∀ i, i < r → q i < r := fun i hi => by rw [s1]; exact (s3 i (by omega) hi).2
  have hi : ∀ i j, q i = q j → i = j := fun i j e => s2 i j (by rw [s1, s1] at e; exact e)
  have hun : usR q j (q j) = false := by
    cases hu : usR q j (q j) with
    | false => rfl
    | true =>
      obtain ⟨t, t1, t2⟩ := usR_true hu
      have := hi t j t2
      omega
  rcases h with ⟨_, h2⟩ | ⟨c, h1, h2, h3, h4⟩
  · have := h2 (q j) (hq j hj)
    rw [hun] at this; cases this
  · by_cases e : q j = c
    · rw [h1, e]
    · exfalso
      have hlt := h4 (q j) (hq j hj) hun e
      obtain ⟨t, t1, t2⟩ := surj r q hq (fun i j _ _ => hi i j) c h2
      have htj : j < t := by
        rcases Nat.lt_trichotomy t j with x | x | x
        · rw [← t2, usR_of x] at h3; cases h3
        · rw [x] at t2; exact absurd t2 e
        · exact x
      have := hS j t (by omega) htj t1
      rw [t2] at this
      exact lt_asymm this hlt
theorem Re.range {q : Nat → Nat} {r j : Nat} (hR : Re (fun i => i) q 0 r) (hj : j < r) : q j < r := by
  obtain ⟨s, s1, s2, s3, s4⟩ := hR
  rw [s1]; exact (s3 j (by omega) hj).2
end Go.Proofs.Ybulkedom
