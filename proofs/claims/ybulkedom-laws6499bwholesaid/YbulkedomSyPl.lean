import Derived.Test.YbulkedomRo
namespace Go.Proofs.Ybulkedom
set_option linter.unusedVariables false

theorem lt_le {kp : Nat → Int} {x y : Nat} (h : lt kp x y) : kp x ≤ kp y := by unfold lt at h; omega
theorem Srt.mono {kp : Nat → Int} {p : Nat → Nat} {a b : Nat} (h : Srt kp p a b) {c d : Nat} (h1 : a ≤ c) (h2 : c ≤ d) (h3 : d < b) : kp (p c) ≤ kp (p d) := by
  by_cases e : c = d
  · rw [e]; omega
  · exact lt_le (h c d h1 (by omega) h3)
theorem Srt.lt_of {kp : Nat → Int} {p : Nat → Nat} {a b : Nat} (h : Srt kp p a b) {c d z : Nat} (h1 : a ≤ c) (h2 : c ≤ d) (h3 : d < b) (h4 : lt kp (p d) z) : lt kp (p c) z := by
  by_cases e : c = d
  · rw [e]; exact h4
  · exact lt_trans (h c d h1 (by omega) h3) h4
theorem Srt.of_lt {kp : Nat → Int} {p : Nat → Nat} {a b : Nat} (h : Srt kp p a b) {c d z : Nat} (h1 : a ≤ c) (h2 : c ≤ d) (h3 : d < b) (h4 : lt kp z (p c)) : lt kp z (p d) := by
  by_cases e : c = d
  · rw [← e]; exact h4
  · exact lt_trans h4 (h c d h1 (by omega) h3)

/-- One entry ahead of a sorted part, put where it belongs. -/
theorem one_srt {kp : Nat → Int} {p : Nat → Nat} {a m b i : Nat} (hm : m = a + 1) (h1 : m ≤ i) (h2 : i ≤ b) (hs : Srt kp p m b) (hlo : ∀ c, m ≤ c → c < i → lt kp (p c) (p a)) (hhi : ∀ c, i ≤ c → c < b → lt kp (p a) (p c)) : Srt kp (rot p a m i) a b := by
  subst hm
  intro x y hx hxy hy
  rcases rot_cases p a (a + 1) i x with ⟨a1, a2, e1⟩ | ⟨a1, a2, e1⟩ | ⟨a1, a2, e1⟩
  · rw [e1]
    rcases rot_cases p a (a + 1) i y with ⟨b1, b2, e2⟩ | ⟨b1, b2, e2⟩ | ⟨b1, b2, e2⟩
    · rw [e2]; exact hs _ _ (by omega) (by omega) (by omega)
    · rw [e2, show y - (i - (a + 1)) = a by omega]; exact hlo _ (by omega) (by omega)
    · rw [e2]; exact hs _ _ (by omega) (by omega) (by omega)
  · rw [e1, show x - (i - (a + 1)) = a by omega]
    rcases rot_cases p a (a + 1) i y with ⟨b1, b2, e2⟩ | ⟨b1, b2, e2⟩ | ⟨b1, b2, e2⟩
    · exfalso; omega
    · exfalso; omega
    · rw [e2]; exact hhi _ (by omega) (by omega)
  · rw [e1]
    rcases rot_cases p a (a + 1) i y with ⟨b1, b2, e2⟩ | ⟨b1, b2, e2⟩ | ⟨b1, b2, e2⟩
    · exfalso; omega
    · exfalso; omega
    · rw [e2]; exact hs _ _ (by omega) (by omega) (by omega)
/-- One entry behind a sorted part, put where it belongs. -/
theorem last_srt {kp : Nat → Int} {p : Nat → Nat} {a m b i : Nat} (hm : b = m + 1) (h1 : a ≤ i) (h2 : i ≤ m) (hs : Srt kp p a m) (hlo : ∀ c, a ≤ c → c < i → lt kp (p c) (p m)) (hhi : ∀ c, i ≤ c → c < m → lt kp (p m) (p c)) : Srt kp (rot p i m b) a b := by
  subst hm
  intro x y hx hxy hy
  rcases rot_cases p i m (m + 1) x with ⟨a1, a2, e1⟩ | ⟨a1, a2, e1⟩ | ⟨a1, a2, e1⟩
  · rw [e1, show x + (m - i) = m by omega]
    rcases rot_cases p i m (m + 1) y with ⟨b1, b2, e2⟩ | ⟨b1, b2, e2⟩ | ⟨b1, b2, e2⟩
    · exfalso; omega
    · rw [e2]; exact hhi _ (by omega) (by omega)
    · exfalso; omega
  · rw [e1]
    rcases rot_cases p i m (m + 1) y with ⟨b1, b2, e2⟩ | ⟨b1, b2, e2⟩ | ⟨b1, b2, e2⟩
    · exfalso; omega
    · rw [e2]; exact hs _ _ (by omega) (by omega) (by omega)
    · exfalso; omega
  · rw [e1]
    rcases rot_cases p i m (m + 1) y with ⟨b1, b2, e2⟩ | ⟨b1, b2, e2⟩ | ⟨b1, b2, e2⟩
    · rw [e2, show y + (m - i) = m by omega]; exact hlo _ (by omega) (by omega)
    · rw [e2]; exact hs _ _ (by omega) (by omega) (by omega)
    · rw [e2]; exact hs _ _ (by omega) (by omega) (by omega)

/-- What the search of the symmetric merge finds. lo, hi: where it starts; k: mid + m. -/
theorem find_lo {kp : Nat → Int} {p : Nat → Nat} {a m b lo s k : Nat} (hs1 : Srt kp p a m) (hs2 : Srt kp p m b) (hc : Crs p a m b)
    (hal : a ≤ lo) (hls : lo ≤ s) (hsm : s ≤ m) (hlk : lo = a ∨ b + lo = k) (hkm : m + s ≤ k) (hkb : k ≤ b + lo)
    (hlow : ∀ c, lo ≤ c → c < s → ¬ kp (p (k - 1 - c)) < kp (p c)) :
    ∀ i j, a ≤ i → i < s → k - s ≤ j → j < b → lt kp (p i) (p j) := by
  intro i j h1 h2 h3 h4
  by_cases e : lo < s
  · have h5 := hlow (s - 1) (by omega) (by omega)
    rw [show k - 1 - (s - 1) = k - s by omega] at h5
    have h6 : lt kp (p (s - 1)) (p (k - s)) := (lt_fore (hc _ _ (by omega) (by omega) (by omega) (by omega))).2 h5
    exact hs1.lt_of h1 (by omega) (by omega) (hs2.of_lt (by omega) h3 h4 h6)
  · exfalso; omega
theorem find_hi {kp : Nat → Int} {p : Nat → Nat} {a m b hi s k : Nat} (hs1 : Srt kp p a m) (hs2 : Srt kp p m b) (hc : Crs p a m b)
    (has : a ≤ s) (hsh : s ≤ hi) (hhm : hi ≤ m) (hhk : hi = m ∨ k = hi + m) (hmk : m + hi ≤ k) (hkb : k ≤ b + s)
    (hhigh : ∀ c, s ≤ c → c < hi → kp (p (k - 1 - c)) < kp (p c)) :
    ∀ i j, s ≤ i → i < m → m ≤ j → j < k - s → lt kp (p j) (p i) := by
  intro i j h1 h2 h3 h4
  by_cases e : s < hi
  · have h5 := hhigh s (by omega) (by omega)
    have h6 : lt kp (p (k - 1 - s)) (p s) := (lt_back (hc _ _ (by omega) (by omega) (by omega) (by omega))).2 h5
    exact hs2.lt_of h3 (by omega) (by omega) (hs1.of_lt (by omega) h1 h2 h6)
  · exfalso; omega
end Go.Proofs.Ybulkedom
