import Derived.Test.YbulkedomSw
namespace Go.Proofs.Ybulkedom
open Go.RowKit Go.Sort
set_option linter.unusedVariables false

theorem rot_cases (q : Nat → Nat) (a m b x : Nat) : (a ≤ x ∧ x < a + (b - m) ∧ rot q a m b x = q (x + (m - a))) ∨ (a + (b - m) ≤ x ∧ x < b ∧ rot q a m b x = q (x - (b - m))) ∨ (¬ (a ≤ x ∧ x < a + (b - m)) ∧ ¬ (a + (b - m) ≤ x ∧ x < b) ∧ rot q a m b x = q x) := by
  unfold rot
  by_cases h1 : a ≤ x ∧ x < a + (b - m)
  · rw [if_pos h1]; exact .inl ⟨h1.1, h1.2, rfl⟩
  · rw [if_neg h1]
    by_cases h2 : a + (b - m) ≤ x ∧ x < b
    · rw [if_pos h2]; exact .inr (.inl ⟨h2.1, h2.2, rfl⟩)
    · rw [if_neg h2]; exact .inr (.inr ⟨h1, h2, rfl⟩)
theorem swr_cases (q : Nat → Nat) (a b k x : Nat) : (a ≤ x ∧ x < a + k ∧ swr q a b k x = q (x + (b - a))) ∨ (¬ (a ≤ x ∧ x < a + k) ∧ b ≤ x ∧ x < b + k ∧ swr q a b k x = q (x - (b - a))) ∨ (¬ (a ≤ x ∧ x < a + k) ∧ ¬ (b ≤ x ∧ x < b + k) ∧ swr q a b k x = q x) := by
  unfold swr
  by_cases h1 : a ≤ x ∧ x < a + k
  · rw [if_pos h1]; exact .inl ⟨h1.1, h1.2, rfl⟩
  · rw [if_neg h1]
    by_cases h2 : b ≤ x ∧ x < b + k
    · rw [if_pos h2]; exact .inr (.inl ⟨h1, h2.1, h2.2, rfl⟩)
    · rw [if_neg h2]; exact .inr (.inr ⟨h1, h2, rfl⟩)
theorem rot_gt (q : Nat → Nat) {m i j : Nat} (h : j < i) (hi : i ≤ m) (hj : 0 < j) : rot (swr q (m - i) m j) (m - (i - j)) m (m + j) = rot q (m - i) m (m + j) := by
  funext x
  rcases rot_cases (swr q (m - i) m j) (m - (i - j)) m (m + j) x with ⟨a1, a2, e1⟩ | ⟨a1, a2, e1⟩ | ⟨a1, a2, e1⟩
  · rw [e1]
    rcases rot_cases q (m - i) m (m + j) x with ⟨b1, b2, e2⟩ | ⟨b1, b2, e2⟩ | ⟨b1, b2, e2⟩
    all_goals
      rw [e2]
      rcases swr_cases q (m - i) m j (x + (m - (m - (i - j)))) with ⟨c1, c2, e3⟩ | ⟨c1, c2, c3, e3⟩ | ⟨c1, c2, e3⟩
      all_goals first
        | (exfalso; omega)
        | (rw [e3]; done)
        | (rw [e3]; congr 1; omega)
  · rw [e1]
    rcases rot_cases q (m - i) m (m + j) x with ⟨b1, b2, e2⟩ | ⟨b1, b2, e2⟩ | ⟨b1, b2, e2⟩
    all_goals
      rw [e2]
      rcases swr_cases q (m - i) m j (x - ((m + j) - m)) with ⟨c1, c2, e3⟩ | ⟨c1, c2, c3, e3⟩ | ⟨c1, c2, e3⟩
      all_goals first
        | (exfalso; omega)
        | (rw [e3]; done)
        | (rw [e3]; congr 1; omega)
  · rw [e1]
    rcases rot_cases q (m - i) m (m + j) x with ⟨b1, b2, e2⟩ | ⟨b1, b2, e2⟩ | ⟨b1, b2, e2⟩
    all_goals
      rw [e2]
      rcases swr_cases q (m - i) m j x with ⟨c1, c2, e3⟩ | ⟨c1, c2, c3, e3⟩ | ⟨c1, c2, e3⟩
      all_goals first
        | (exfalso; omega)
        | (rw [e3]; done)
        | (rw [e3]; congr 1; omega)
theorem rot_lt (q : Nat → Nat) {m i j : Nat} (h : i < j) (hi : i ≤ m) (hj : 0 < i) : rot (swr q (m - i) (m + j - i) i) (m - i) m (m + (j - i)) = rot q (m - i) m (m + j) := by
  funext x
  rcases rot_cases (swr q (m - i) (m + j - i) i) (m - i) m (m + (j - i)) x with ⟨a1, a2, e1⟩ | ⟨a1, a2, e1⟩ | ⟨a1, a2, e1⟩
  · rw [e1]
    rcases rot_cases q (m - i) m (m + j) x with ⟨b1, b2, e2⟩ | ⟨b1, b2, e2⟩ | ⟨b1, b2, e2⟩
    all_goals
      rw [e2]
      rcases swr_cases q (m - i) (m + j - i) i (x + (m - (m - i))) with ⟨c1, c2, e3⟩ | ⟨c1, c2, c3, e3⟩ | ⟨c1, c2, e3⟩
      all_goals first
        | (exfalso; omega)
        | (rw [e3]; done)
        | (rw [e3]; congr 1; omega)
  · rw [e1]
    rcases rot_cases q (m - i) m (m + j) x with ⟨b1, b2, e2⟩ | ⟨b1, b2, e2⟩ | ⟨b1, b2, e2⟩
    all_goals
      rw [e2]
      rcases swr_cases q (m - i) (m + j - i) i (x - ((m + (j - i)) - m)) with ⟨c1, c2, e3⟩ | ⟨c1, c2, c3, e3⟩ | ⟨c1, c2, e3⟩
      all_goals first
        | (exfalso; omega)
        | (rw [e3]; done)
        | (rw [e3]; congr 1; omega)
  · rw [e1]
    rcases rot_cases q (m - i) m (m + j) x with ⟨b1, b2, e2⟩ | ⟨b1, b2, e2⟩ | ⟨b1, b2, e2⟩
    all_goals
      rw [e2]
      rcases swr_cases q (m - i) (m + j - i) i x with ⟨c1, c2, e3⟩ | ⟨c1, c2, c3, e3⟩ | ⟨c1, c2, e3⟩
      all_goals first
        | (exfalso; omega)
        | (rw [e3]; done)
        | (rw [e3]; congr 1; omega)
theorem rot_eq (q : Nat → Nat) {m i : Nat} (hi : i ≤ m) : swr q (m - i) m i = rot q (m - i) m (m + i) := by
  funext x
  rcases rot_cases q (m - i) m (m + i) x with ⟨b1, b2, e2⟩ | ⟨b1, b2, e2⟩ | ⟨b1, b2, e2⟩
  all_goals
    rw [e2]
    rcases swr_cases q (m - i) m i x with ⟨c1, c2, e3⟩ | ⟨c1, c2, c3, e3⟩ | ⟨c1, c2, e3⟩
    all_goals first
      | (exfalso; omega)
      | (rw [e3]; done)
      | (rw [e3]; congr 1; omega)

set_option maxRecDepth 100000 in
set_option maxHeartbeats 4000000 in
/-- slices.rotateCmpFunc. -/
theorem rotate_any (B : Nat) (g n cap a m b : Nat) (f : ByteArray) (nam : Nat → ByteArray) (kp : Nat → Int) (p : Nat → Nat) (cm : Value) (w : World) (hP : Pm B w g n f nam kp p) (ham : a < m) (hmb : m < b) (hb : b ≤ n) (hn : n ≤ 4611686018427387904) :
    Calls Yba.prog 19 #[.slice (some ⟨g, 0, none⟩) n cap, .int .i64 a, .int .i64 m, .int .i64 b, cm] w fun e w' => e = .returned (.tuple #[]) ∧ Pm B w' g n f nam kp (rot p a m b) ∧ Kp g w w' := by
  have HP := hide hP
  clear hP
  obtain ⟨i0, hi0⟩ : ∃ i0 : Nat, m - a = i0 := ⟨_, rfl⟩
  obtain ⟨j0, hj0⟩ : ∃ j0 : Nat, b - m = j0 := ⟨_, rfl⟩
  have ei : (m : Int) - (a : Int) = (i0 : Int) := by omega
  have ej : (b : Int) - (m : Int) = (j0 : Int) := by omega
  go_enter Yba.func19, Yba.ntmps19
  go_wp2_with fail
  clear ei ej
  go_loopw [10, 11] (fun s t W => ∃ (i j : Nat) (q : Nat → Nat), 0 < i ∧ 0 < j ∧ i ≤ m ∧ m + j ≤ n ∧ s = .int .i64 i ∧ t = .int .i64 j ∧ Pm B W g n f nam kp q ∧ Kp g w W ∧ rot q (m - i) m (m + j) = rot p a m b) (fun s t _ => (intOf s).toNat + (intOf t).toNat)
  case atStart => exact ⟨i0, j0, p, by omega, by omega, by omega, by omega, rfl, rfl, HP.out, Kp.refl _ _, by rw [show m - i0 = a by omega, show m + j0 = b by omega]⟩
  case round =>
    clear HP
    obtain ⟨i, j, q, hi, hj, him, hjn, rfl, rfl, hP, hK, hR⟩ := hrel
    have HPi := hide hP
    have HK := hide hK
    have HR := hide hR
    clear hP hK hR
    rcases Nat.lt_trichotomy i j with h | h | h
    · obtain ⟨x, hx⟩ : ∃ x : Nat, m - i = x := ⟨_, rfl⟩
      obtain ⟨y, hy⟩ : ∃ y : Nat, m + j - i = y := ⟨_, rfl⟩
      have ex : (m : Int) - (i : Int) = (x : Int) := by omega
      have ey : (m : Int) + (j : Int) - (i : Int) = (y : Int) := by omega
      have hne : ¬ (i : Int) = (j : Int) := by omega
      have hng : ¬ (j : Int) < (i : Int) := by omega
      have HX := hide hx
      have HY := hide hy
      clear hx hy
      go_wp2_with fail
      refine (swapRange_any B g n cap x y i f nam kp q cm _ HPi.out (by have := HX.out; omega) (by have := HY.out; omega) (by have := HX.out; have := HY.out; omega) hn).mono ?_
      rintro e W2 ⟨rfl, hP2, hK2⟩
      have HP2 := hide hP2
      have HK2 := hide (HK.out.trans hK2)
      clear hP2 hK2
      go_wp2_with fail
      go_roundw
      case rel => exact ⟨i, j - i, _, by omega, by omega, by omega, by omega, rfl, by go_num, HP2.out, HK2.out, by rw [← HR.out, ← HX.out, ← HY.out]; exact rot_lt q h him hi⟩
      case measure => simp [intOf]; omega
    · subst h
      obtain ⟨x, hx⟩ : ∃ x : Nat, m - i = x := ⟨_, rfl⟩
      have ex : (m : Int) - (i : Int) = (x : Int) := by omega
      have HX := hide hx
      clear hx
      go_wp2_with fail
      refine (swapRange_any B g n cap x m i f nam kp q cm _ HPi.out (by have := HX.out; omega) (by omega) (by have := HX.out; omega) hn).mono ?_
      rintro e W2 ⟨rfl, hP2, hK2⟩
      have HP2 := hide hP2
      have HK2 := hide (HK.out.trans hK2)
      clear hP2 hK2
      go_wp2_with fail
      go_end0
      exact ⟨rfl, by rw [← HR.out, ← rot_eq q him, HX.out]; exact HP2.out, HK2.out⟩
    · obtain ⟨x, hx⟩ : ∃ x : Nat, m - i = x := ⟨_, rfl⟩
      have ex : (m : Int) - (i : Int) = (x : Int) := by omega
      have hne : ¬ (i : Int) = (j : Int) := by omega
      have hgt : (j : Int) < (i : Int) := by omega
      have HX := hide hx
      clear hx
      go_wp2_with fail
      refine (swapRange_any B g n cap x m j f nam kp q cm _ HPi.out (by have := HX.out; omega) (by omega) (by have := HX.out; omega) hn).mono ?_
      rintro e W2 ⟨rfl, hP2, hK2⟩
      have HP2 := hide hP2
      have HK2 := hide (HK.out.trans hK2)
      clear hP2 hK2
      go_wp2_with fail
      go_roundw
      case rel => exact ⟨i - j, j, _, by omega, by omega, by omega, by omega, by go_num, rfl, HP2.out, HK2.out, by rw [← HR.out, ← HX.out]; exact rot_gt q h him hj⟩
      case measure => simp [intOf]; omega
end Go.Proofs.Ybulkedom
