import Derived.Test.YbulkedomSyBits
namespace Go.Proofs.Ybulkedom
open Go.RowKit Go.Sort
set_option linter.unusedVariables false

theorem rot_self (p : Nat → Nat) (a : Nat) : rot p a (a + 1) (a + 1) = p := by
  funext x
  rcases rot_cases p a (a + 1) (a + 1) x with ⟨b1, b2, e2⟩ | ⟨b1, b2, e2⟩ | ⟨b1, b2, e2⟩
  · exfalso; omega
  · rw [e2]; congr 1; omega
  · rw [e2]
theorem rot_next (p : Nat → Nat) {a k : Nat} (h : a ≤ k) : swp (rot p a (a + 1) (k + 1)) k (k + 1) = rot p a (a + 1) (k + 2) := by
  funext x
  unfold swp
  rcases rot_cases p a (a + 1) (k + 2) x with ⟨b1, b2, e2⟩ | ⟨b1, b2, e2⟩ | ⟨b1, b2, e2⟩
  all_goals
    rw [e2]
    by_cases h1 : x = k
    · rw [if_pos h1]
      rcases rot_cases p a (a + 1) (k + 1) (k + 1) with ⟨c1, c2, e3⟩ | ⟨c1, c2, e3⟩ | ⟨c1, c2, e3⟩
      all_goals first
        | (exfalso; omega)
        | (rw [e3]; done)
        | (rw [e3]; congr 1; omega)
    · rw [if_neg h1]
      by_cases h2 : x = k + 1
      · rw [if_pos h2]
        rcases rot_cases p a (a + 1) (k + 1) k with ⟨c1, c2, e3⟩ | ⟨c1, c2, e3⟩ | ⟨c1, c2, e3⟩
        all_goals first
          | (exfalso; omega)
          | (rw [e3]; done)
          | (rw [e3]; congr 1; omega)
      · rw [if_neg h2]
        rcases rot_cases p a (a + 1) (k + 1) x with ⟨c1, c2, e3⟩ | ⟨c1, c2, e3⟩ | ⟨c1, c2, e3⟩
        all_goals first
          | (exfalso; omega)
          | (rw [e3]; done)
          | (rw [e3]; congr 1; omega)

set_option maxRecDepth 100000 in
set_option maxHeartbeats 4000000 in
/-- symMerge where the first part is one entry. -/
theorem sym_one (B : Nat) (g n cap a m b : Nat) (f : ByteArray) (nam : Nat → ByteArray) (kp : Nat → Int) (p : Nat → Nat) (w : World) (hP : Pm B w g n f nam kp p) (ham : m = a + 1) (hmb : m < b) (hb : b ≤ n) (hn : n ≤ 4611686018427387904)
    (hmono : ∀ c d, m ≤ c → c ≤ d → d < b → kp (p c) ≤ kp (p d)) :
    Calls Yba.prog 17 #[.slice (some ⟨g, 0, none⟩) n cap, .int .i64 a, .int .i64 m, .int .i64 b, .func (.func 13) #[] #[]] w fun e w' => e = .returned (.tuple #[]) ∧ ∃ i, m ≤ i ∧ i ≤ b ∧ (∀ c, m ≤ c → c < i → kp (p c) < kp (p a)) ∧ (∀ c, i ≤ c → c < b → kp (p a) ≤ kp (p c)) ∧ Pm B w' g n f nam kp (rot p a m i) ∧ Kp g w w' := by
  have HP := hide hP
  have HMO := hide hmono
  clear hP hmono
  have e1 : (m : Int) - (a : Int) = 1 := by omega
  have HAM := hide ham
  clear ham
  go_enter Yba.func17, Yba.ntmps17
  go_wp2_with fail
  clear e1
  go_loopw [10, 11] (fun s t W => ∃ (i j : Nat), m ≤ i ∧ i ≤ j ∧ j ≤ b ∧ s = .int .i64 i ∧ t = .int .i64 j ∧ Pm B W g n f nam kp p ∧ Kp g w W ∧ (∀ c, m ≤ c → c < i → kp (p c) < kp (p a)) ∧ (∀ c, j ≤ c → c < b → kp (p a) ≤ kp (p c))) (fun s t _ => (intOf t).toNat - (intOf s).toNat)
  case atStart => exact ⟨m, b, by omega, by omega, by omega, rfl, rfl, HP.out, Kp.refl _ _, fun c h1 h2 => by omega, fun c h1 h2 => by omega⟩
  case round =>
    clear HP
    obtain ⟨i, j, hi, hij, hj, rfl, rfl, hP, hK, hlo, hhi⟩ := hrel
    have HLO := hide hlo
    have HHI := hide hhi
    clear hlo hhi
    by_cases hlt : i < j
    · obtain ⟨x, hx⟩ : ∃ x : Nat, (i + j) / 2 = x := ⟨_, rfl⟩
      obtain ⟨c0, c1, c2, c3, c4, c5, c6⟩ := hP.at (i := x) (by omega)
      obtain ⟨d0, d1, d2, d3, d4, d5, d6⟩ := hP.at (i := a) (by have := HAM.out; omega)
      have ex : ((i : Int) + (j : Int)) / 2 = (x : Int) := by omega
      have bx : (x : Int) < (n : Int) := by omega
      have ba : (a : Int) < (n : Int) := by have := HAM.out; omega
      have HPi := hide hP
      have HK := hide hK
      have HX := hide hx
      have hxij : i ≤ x ∧ x < j := by omega
      have HXJ := hide hxij
      have hlo2 : kp (p x) < kp (p a) → ∀ c, m ≤ c → c < x + 1 → kp (p c) < kp (p a) := fun h c h1 h2 => by
        have := HMO.out c x h1 (by omega) (by omega)
        omega
      have hhi2 : ¬ kp (p x) < kp (p a) → ∀ c, x ≤ c → c < b → kp (p a) ≤ kp (p c) := fun h c h1 h2 => by
        have := HMO.out x c (by omega) h1 h2
        omega
      have HLO2 := hide hlo2
      have HHI2 := hide hhi2
      clear hlo2 hhi2 hxij
      obtain ⟨kx, hkx⟩ : ∃ kx, kp (p x) = kx := ⟨_, rfl⟩
      obtain ⟨ka, hka⟩ : ∃ ka, kp (p a) = ka := ⟨_, rfl⟩
      rw [hkx] at c6
      rw [hka] at d6
      have HKX := hide hkx
      have HKA := hide hka
      clear hkx hka
      generalize nam (p x) = nx at c1
      generalize nam (p a) = na at d1
      clear hP hK hx
      by_cases hcm : kx < ka
      · have hcz : cmpI kx ka < 0 := (cmpI_neg kx ka).2 hcm
        have HCM : Hid (kp (p x) < kp (p a)) := by show _ < _; rw [HKX.out, HKA.out]; exact hcm
        clear hcm
        go_wp2_with fail
        go_region_held3 (fun w' => w'.cell? ⟨g, x * 7, none⟩ = some (.string f) ∧ w'.cell? ⟨g, x * 7 + 1, none⟩ = some (.string nx) ∧ w'.cell? ⟨g, x * 7 + 2, none⟩ = some (.string ByteArray.empty) ∧ w'.cell? ⟨g, x * 7 + 3, none⟩ = some (.string ByteArray.empty) ∧ w'.cell? ⟨g, x * 7 + 4, none⟩ = some (.string ByteArray.empty) ∧ w'.cell? ⟨g, x * 7 + 5, none⟩ = some (.int .i64 0) ∧ w'.cell? ⟨g, x * 7 + 6, none⟩ = some (.int .i64 kx) ∧ w'.cell? ⟨g, a * 7, none⟩ = some (.string f) ∧ w'.cell? ⟨g, a * 7 + 1, none⟩ = some (.string na) ∧ w'.cell? ⟨g, a * 7 + 2, none⟩ = some (.string ByteArray.empty) ∧ w'.cell? ⟨g, a * 7 + 3, none⟩ = some (.string ByteArray.empty) ∧ w'.cell? ⟨g, a * 7 + 4, none⟩ = some (.string ByteArray.empty) ∧ w'.cell? ⟨g, a * 7 + 5, none⟩ = some (.int .i64 0) ∧ w'.cell? ⟨g, a * 7 + 6, none⟩ = some (.int .i64 ka)) (go_keep)
          ((go_at_call 13; refine (byPlace_any f nx f na kx ka _).mono ?_; rintro e w1 ⟨rfl, hw1⟩; have kc0 := keep2d hw1 c0; have kc1 := keep2d hw1 c1; have kc2 := keep2d hw1 c2; have kc3 := keep2d hw1 c3; have kc4 := keep2d hw1 c4; have kc5 := keep2d hw1 c5; have kc6 := keep2d hw1 c6; have kd0 := keep2d hw1 d0; have kd1 := keep2d hw1 d1; have kd2 := keep2d hw1 d2; have kd3 := keep2d hw1 d3; have kd4 := keep2d hw1 d4; have kd5 := keep2d hw1 d5; have kd6 := keep2d hw1 d6;))
        have hb2 : Below wr.heap.size wr w1 := by rw [hw1]; exact ((Below.refl _ _).drew.alloc (Nat.le_refl _) _).alloc (by simp) _
        have HP2 := hide (HPi.out.of_block (W' := w1) (hb2.block _ HPi.out.row.lt))
        have HK2 := hide (HK.out.trans (Kp.below hb2))
        have hW : ((wr.alloc (Obj.cells (pmC f nx kx).toArray 47)).alloc (Obj.cells (pmC f na ka).toArray 47)).drew = w1 := by rw [hw1]; rfl
        rw [hW]
        clear hW hw1 hb2 HPi HK kc0 kc1 kc2 kc3 kc4 kc5 kc6 kd0 kd1 kd2 kd3 kd4 kd5 kd6 c0 c1 c2 c3 c4 c5 c6 d0 d1 d2 d3 d4 d5 d6
        go_wp2_with fail
        go_roundw
        case rel => exact ⟨x + 1, j, by have := HXJ.out; omega, by have := HXJ.out; omega, by omega, by go_num, rfl, HP2.out, HK2.out, HLO2.out HCM.out, HHI.out⟩
        case measure => have := HXJ.out; simp [intOf]; omega
      · have hcz : ¬ cmpI kx ka < 0 := fun h => hcm ((cmpI_neg kx ka).1 h)
        have HCM : Hid (¬ kp (p x) < kp (p a)) := by show ¬ _; rw [HKX.out, HKA.out]; exact hcm
        clear hcm
        go_wp2_with fail
        go_region_held3 (fun w' => w'.cell? ⟨g, x * 7, none⟩ = some (.string f) ∧ w'.cell? ⟨g, x * 7 + 1, none⟩ = some (.string nx) ∧ w'.cell? ⟨g, x * 7 + 2, none⟩ = some (.string ByteArray.empty) ∧ w'.cell? ⟨g, x * 7 + 3, none⟩ = some (.string ByteArray.empty) ∧ w'.cell? ⟨g, x * 7 + 4, none⟩ = some (.string ByteArray.empty) ∧ w'.cell? ⟨g, x * 7 + 5, none⟩ = some (.int .i64 0) ∧ w'.cell? ⟨g, x * 7 + 6, none⟩ = some (.int .i64 kx) ∧ w'.cell? ⟨g, a * 7, none⟩ = some (.string f) ∧ w'.cell? ⟨g, a * 7 + 1, none⟩ = some (.string na) ∧ w'.cell? ⟨g, a * 7 + 2, none⟩ = some (.string ByteArray.empty) ∧ w'.cell? ⟨g, a * 7 + 3, none⟩ = some (.string ByteArray.empty) ∧ w'.cell? ⟨g, a * 7 + 4, none⟩ = some (.string ByteArray.empty) ∧ w'.cell? ⟨g, a * 7 + 5, none⟩ = some (.int .i64 0) ∧ w'.cell? ⟨g, a * 7 + 6, none⟩ = some (.int .i64 ka)) (go_keep)
          ((go_at_call 13; refine (byPlace_any f nx f na kx ka _).mono ?_; rintro e w1 ⟨rfl, hw1⟩; have kc0 := keep2d hw1 c0; have kc1 := keep2d hw1 c1; have kc2 := keep2d hw1 c2; have kc3 := keep2d hw1 c3; have kc4 := keep2d hw1 c4; have kc5 := keep2d hw1 c5; have kc6 := keep2d hw1 c6; have kd0 := keep2d hw1 d0; have kd1 := keep2d hw1 d1; have kd2 := keep2d hw1 d2; have kd3 := keep2d hw1 d3; have kd4 := keep2d hw1 d4; have kd5 := keep2d hw1 d5; have kd6 := keep2d hw1 d6;))
        have hb2 : Below wr.heap.size wr w1 := by rw [hw1]; exact ((Below.refl _ _).drew.alloc (Nat.le_refl _) _).alloc (by simp) _
        have HP2 := hide (HPi.out.of_block (W' := w1) (hb2.block _ HPi.out.row.lt))
        have HK2 := hide (HK.out.trans (Kp.below hb2))
        have hW : ((wr.alloc (Obj.cells (pmC f nx kx).toArray 47)).alloc (Obj.cells (pmC f na ka).toArray 47)).drew = w1 := by rw [hw1]; rfl
        rw [hW]
        clear hW hw1 hb2 HPi HK kc0 kc1 kc2 kc3 kc4 kc5 kc6 kd0 kd1 kd2 kd3 kd4 kd5 kd6 c0 c1 c2 c3 c4 c5 c6 d0 d1 d2 d3 d4 d5 d6
        go_wp2_with fail
        go_roundw
        case rel => exact ⟨i, x, by omega, by have := HXJ.out; omega, by have := HXJ.out; omega, rfl, by go_num, HP2.out, HK2.out, HLO.out, HHI2.out HCM.out⟩
        case measure => have := HXJ.out; simp [intOf]; omega
    · have : i = j := by omega
      subst this
      have HPi := hide hP
      have HK := hide hK
      clear hP hK
      go_wp2_with fail
      go_loopw [13] (fun s W => ∃ k : Nat, a ≤ k ∧ k < i ∧ s = .int .i64 k ∧ Pm B W g n f nam kp (rot p a (a + 1) (k + 1)) ∧ Kp g w W) (fun s _ => i - (intOf s).toNat)
      case atStart => exact ⟨a, by omega, by have := HAM.out; omega, rfl, by rw [rot_self]; exact HPi.out, HK.out⟩
      case round =>
        clear HPi HK
        obtain ⟨k, hk1, hk2, rfl, hP, hK⟩ := hrel
        by_cases hlt2 : k + 1 < i
        · obtain ⟨x, hx⟩ : ∃ x, k = x := ⟨_, rfl⟩
          subst hx
          obtain ⟨y, hy⟩ : ∃ y, k + 1 = y := ⟨_, rfl⟩
          have ey : (k : Int) + 1 = (y : Int) := by omega
          obtain ⟨q, hq⟩ : ∃ q, rot p a (a + 1) (k + 1) = q := ⟨_, rfl⟩
          have hst : swp q k y = rot p a (a + 1) (y + 1) := by rw [← hq, ← hy]; exact rot_next p hk1
          rw [hq] at hP
          obtain ⟨c0, c1, c2, c3, c4, c5, c6⟩ := hP.at (i := k) (by omega)
          obtain ⟨d0, d1, d2, d3, d4, d5, d6⟩ := hP.at (i := y) (by omega)
          have hfr : ∀ o, wr.frozen? ⟨g, o, none⟩ = false := fun o => by
            obtain ⟨cur, hg, _⟩ := hP.row.row
            exact frozen_of_row wr _ _ _ _ hg
          have hsw := hP.swap (x := k) (y := y) (by omega) (by omega)
          rw [hst] at hsw
          have HSW := hide hsw
          have HK := hide hK
          have HY := hide hy
          have bx : (k : Int) < (n : Int) := by omega
          have by' : (y : Int) < (n : Int) := by omega
          have hci : (k : Int) < (i : Int) - 1 := by omega
          have n01 : ¬ (k * 7 = y * 7 + 1) := by omega
          have m01 : ¬ (y * 7 + 1 = k * 7) := by omega
          have n02 : ¬ (k * 7 = y * 7 + 2) := by omega
          have m02 : ¬ (y * 7 + 2 = k * 7) := by omega
          have n03 : ¬ (k * 7 = y * 7 + 3) := by omega
          have m03 : ¬ (y * 7 + 3 = k * 7) := by omega
          have n04 : ¬ (k * 7 = y * 7 + 4) := by omega
          have m04 : ¬ (y * 7 + 4 = k * 7) := by omega
          have n05 : ¬ (k * 7 = y * 7 + 5) := by omega
          have m05 : ¬ (y * 7 + 5 = k * 7) := by omega
          have n06 : ¬ (k * 7 = y * 7 + 6) := by omega
          have m06 : ¬ (y * 7 + 6 = k * 7) := by omega
          have n10 : ¬ (k * 7 + 1 = y * 7) := by omega
          have m10 : ¬ (y * 7 = k * 7 + 1) := by omega
          have n12 : ¬ (k * 7 + 1 = y * 7 + 2) := by omega
          have m12 : ¬ (y * 7 + 2 = k * 7 + 1) := by omega
          have n13 : ¬ (k * 7 + 1 = y * 7 + 3) := by omega
          have m13 : ¬ (y * 7 + 3 = k * 7 + 1) := by omega
          have n14 : ¬ (k * 7 + 1 = y * 7 + 4) := by omega
          have m14 : ¬ (y * 7 + 4 = k * 7 + 1) := by omega
          have n15 : ¬ (k * 7 + 1 = y * 7 + 5) := by omega
          have m15 : ¬ (y * 7 + 5 = k * 7 + 1) := by omega
          have n16 : ¬ (k * 7 + 1 = y * 7 + 6) := by omega
          have m16 : ¬ (y * 7 + 6 = k * 7 + 1) := by omega
          have n20 : ¬ (k * 7 + 2 = y * 7) := by omega
          have m20 : ¬ (y * 7 = k * 7 + 2) := by omega
          have n21 : ¬ (k * 7 + 2 = y * 7 + 1) := by omega
          have m21 : ¬ (y * 7 + 1 = k * 7 + 2) := by omega
          have n23 : ¬ (k * 7 + 2 = y * 7 + 3) := by omega
          have m23 : ¬ (y * 7 + 3 = k * 7 + 2) := by omega
          have n24 : ¬ (k * 7 + 2 = y * 7 + 4) := by omega
          have m24 : ¬ (y * 7 + 4 = k * 7 + 2) := by omega
          have n25 : ¬ (k * 7 + 2 = y * 7 + 5) := by omega
          have m25 : ¬ (y * 7 + 5 = k * 7 + 2) := by omega
          have n26 : ¬ (k * 7 + 2 = y * 7 + 6) := by omega
          have m26 : ¬ (y * 7 + 6 = k * 7 + 2) := by omega
          have n30 : ¬ (k * 7 + 3 = y * 7) := by omega
          have m30 : ¬ (y * 7 = k * 7 + 3) := by omega
          have n31 : ¬ (k * 7 + 3 = y * 7 + 1) := by omega
          have m31 : ¬ (y * 7 + 1 = k * 7 + 3) := by omega
          have n32 : ¬ (k * 7 + 3 = y * 7 + 2) := by omega
          have m32 : ¬ (y * 7 + 2 = k * 7 + 3) := by omega
          have n34 : ¬ (k * 7 + 3 = y * 7 + 4) := by omega
          have m34 : ¬ (y * 7 + 4 = k * 7 + 3) := by omega
          have n35 : ¬ (k * 7 + 3 = y * 7 + 5) := by omega
          have m35 : ¬ (y * 7 + 5 = k * 7 + 3) := by omega
          have n36 : ¬ (k * 7 + 3 = y * 7 + 6) := by omega
          have m36 : ¬ (y * 7 + 6 = k * 7 + 3) := by omega
          have n40 : ¬ (k * 7 + 4 = y * 7) := by omega
          have m40 : ¬ (y * 7 = k * 7 + 4) := by omega
          have n41 : ¬ (k * 7 + 4 = y * 7 + 1) := by omega
          have m41 : ¬ (y * 7 + 1 = k * 7 + 4) := by omega
          have n42 : ¬ (k * 7 + 4 = y * 7 + 2) := by omega
          have m42 : ¬ (y * 7 + 2 = k * 7 + 4) := by omega
          have n43 : ¬ (k * 7 + 4 = y * 7 + 3) := by omega
          have m43 : ¬ (y * 7 + 3 = k * 7 + 4) := by omega
          have n45 : ¬ (k * 7 + 4 = y * 7 + 5) := by omega
          have m45 : ¬ (y * 7 + 5 = k * 7 + 4) := by omega
          have n46 : ¬ (k * 7 + 4 = y * 7 + 6) := by omega
          have m46 : ¬ (y * 7 + 6 = k * 7 + 4) := by omega
          have n50 : ¬ (k * 7 + 5 = y * 7) := by omega
          have m50 : ¬ (y * 7 = k * 7 + 5) := by omega
          have n51 : ¬ (k * 7 + 5 = y * 7 + 1) := by omega
          have m51 : ¬ (y * 7 + 1 = k * 7 + 5) := by omega
          have n52 : ¬ (k * 7 + 5 = y * 7 + 2) := by omega
          have m52 : ¬ (y * 7 + 2 = k * 7 + 5) := by omega
          have n53 : ¬ (k * 7 + 5 = y * 7 + 3) := by omega
          have m53 : ¬ (y * 7 + 3 = k * 7 + 5) := by omega
          have n54 : ¬ (k * 7 + 5 = y * 7 + 4) := by omega
          have m54 : ¬ (y * 7 + 4 = k * 7 + 5) := by omega
          have n56 : ¬ (k * 7 + 5 = y * 7 + 6) := by omega
          have m56 : ¬ (y * 7 + 6 = k * 7 + 5) := by omega
          have n60 : ¬ (k * 7 + 6 = y * 7) := by omega
          have m60 : ¬ (y * 7 = k * 7 + 6) := by omega
          have n61 : ¬ (k * 7 + 6 = y * 7 + 1) := by omega
          have m61 : ¬ (y * 7 + 1 = k * 7 + 6) := by omega
          have n62 : ¬ (k * 7 + 6 = y * 7 + 2) := by omega
          have m62 : ¬ (y * 7 + 2 = k * 7 + 6) := by omega
          have n63 : ¬ (k * 7 + 6 = y * 7 + 3) := by omega
          have m63 : ¬ (y * 7 + 3 = k * 7 + 6) := by omega
          have n64 : ¬ (k * 7 + 6 = y * 7 + 4) := by omega
          have m64 : ¬ (y * 7 + 4 = k * 7 + 6) := by omega
          have n65 : ¬ (k * 7 + 6 = y * 7 + 5) := by omega
          have m65 : ¬ (y * 7 + 5 = k * 7 + 6) := by omega
          have nxy : ¬ k = y := by omega
          have nyx : ¬ y = k := by omega
          clear hst hq hsw hK hP hy
          generalize nam (q k) = nx at *
          generalize kp (q k) = kx at *
          generalize nam (q y) = ny at *
          generalize kp (q y) = ky at *
          go_wp2_with fail
          go_region
          have HW : Hid (Pm B (swW wr g k y f nx ny kx ky) g n f nam kp (rot p a (a + 1) (y + 1))) := HSW
          have HK2 := hide (HK.out.trans (Kp.swap wr g k y f nx ny kx ky))
          obtain ⟨W2, hW2⟩ : ∃ W2, swW wr g k y f nx ny kx ky = W2 := ⟨_, rfl⟩
          rw [hW2] at HW HK2
          simp only [swW, pmC, World.setCells, Nat.add_assoc, Nat.reduceAdd] at hW2
          rw [hW2]
          clear hW2 HSW HK
          go_wp2_with fail
          go_roundw
          case rel => exact ⟨y, by have := HY.out; omega, by have := HY.out; omega, by go_num, HW.out, HK2.out⟩
          case measure => have := HY.out; simp [intOf]; omega
        · have : i = k + 1 := by omega
          subst this
          have HP2 := hide hP
          have HK2 := hide hK
          clear hP hK
          go_wp2_with fail
          first | go_end0 | (simp only [Exit.inBlock, Exit.then]; refine bodyPost_ret (results_none rfl _ _ _) rfl ?_) | refine bodyPost_ret (results_none rfl _ _ _) rfl ?_
          exact ⟨rfl, k + 1, by omega, by omega, HLO.out, HHI.out, by rw [HAM.out]; exact HP2.out, HK2.out⟩
end Go.Proofs.Ybulkedom
