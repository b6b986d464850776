import Derived.Test.YbulkedomSz
import Derived.Test.YbulkedomSyPl
namespace Go.Proofs.Ybulkedom
open Go.RowKit Go.Sort
set_option linter.unusedVariables false

theorem ins_step {kp : Nat → Int} {p q : Nat → Nat} {a b i j : Nat} (hinc : ∀ c d, a ≤ c → c < d → d < b → p c < p d) (hR : Re p q a i) (hS : Srt kp q a i) (hi : a + 1 ≤ i) (hib : i < b) (hj1 : a ≤ j) (hj2 : j ≤ i) (hhi : ∀ c, j ≤ c → c < i → kp (q i) < kp (q c)) (hlo : ∀ c, a ≤ c → c < j → kp (q c) ≤ kp (q i)) : Srt kp (rot q j i (i + 1)) a (i + 1) := by
  have hx : ∀ c, a ≤ c → c < i → q c < q i := fun c h1 h2 => by
    obtain ⟨d, d1, d2, e⟩ := hR.inn h1 h2
    rw [e, hR.out (i := i) (by omega)]
    exact hinc d i d1 d2 hib
  exact last_srt rfl hj1 hj2 hS (fun c h1 h2 => (lt_fore (hx c h1 (by omega))).2 (by have := hlo c h1 h2; omega)) (fun c h1 h2 => (lt_back (hx c (by omega) h2)).2 (hhi c h1 h2))

set_option maxRecDepth 100000 in
set_option maxHeartbeats 8000000 in
/-- slices.insertionSortCmpFunc. -/
theorem ins_any (B : Nat) (g n cap a b : Nat) (f : ByteArray) (nam : Nat → ByteArray) (kp : Nat → Int) (p : Nat → Nat) (w : World) (hP : Pm B w g n f nam kp p) (hab : a ≤ b) (hb : b ≤ n) (hn : n ≤ 2305843009213693952)
    (hinc : ∀ c d, a ≤ c → c < d → d < b → p c < p d) :
    Calls Yba.prog 16 #[.slice (some ⟨g, 0, none⟩) n cap, .int .i64 a, .int .i64 b, .func (.func 13) #[] #[]] w fun e w' => e = .returned (.tuple #[]) ∧ ∃ p', Srt kp p' a b ∧ Re p p' a b ∧ Pm B w' g n f nam kp p' ∧ Kp g w w' := by
  have HP := hide hP
  have HIN := hide hinc
  have HAB := hide hab
  clear hP hinc hab
  have han : a ≤ n := by have := HAB.out; omega
  go_enter Yba.func16, Yba.ntmps16
  go_wp2_with fail
  go_loopw [8] (fun s W => ∃ (i : Nat) (q : Nat → Nat), a + 1 ≤ i ∧ i ≤ b + 1 ∧ s = .int .i64 i ∧ (i ≤ b ∨ a = b) ∧ Pm B W g n f nam kp q ∧ Kp g w W ∧ Srt kp q a i ∧ Re p q a i) (fun s _ => b + 1 - (intOf s).toNat)
  case atStart => exact ⟨a + 1, p, by omega, by have := HAB.out; omega, by go_num, by have := HAB.out; omega, HP.out, Kp.refl _ _, fun i j h1 h2 h3 => by omega, Re.refl _ _ _⟩
  case round =>
    clear HP
    obtain ⟨i, q, hi1, hi2, rfl, hi3, hP, hK, hS, hR⟩ := hrel
    have HP := hide hP
    have HK := hide hK
    have HS := hide hS
    have HR := hide hR
    have HI3 := hide hi3
    clear hP hK hS hR hi3
    by_cases hlt : i < b
    · go_wp2_with fail
      go_loopw [9] (fun s W => ∃ (j : Nat), a ≤ j ∧ j ≤ i ∧ s = .int .i64 j ∧ Pm B W g n f nam kp (rot q j i (i + 1)) ∧ Kp g w W ∧ (∀ c, j ≤ c → c < i → kp (q i) < kp (q c))) (fun s _ => (intOf s).toNat)
      case atStart => exact ⟨i, by omega, by omega, rfl, by rw [rot_self2]; exact HP.out, HK.out, fun c h1 h2 => by omega⟩
      case round =>
        clear HP HK
        obtain ⟨j, hj1, hj2, rfl, hP, hK, hhi⟩ := hrel
        have HHI := hide hhi
        clear hhi
        by_cases hja : a < j
        · obtain ⟨y, hy⟩ : ∃ y, j = y + 1 := ⟨j - 1, by omega⟩
          have ey : (j : Int) - 1 = (y : Int) := by omega
          have w64 : wrap64 ((j : Int) - 1) = (y : Int) := by rw [ey]; unfold wrap64; omega
          have w64b : IntKind.i64.wrap ((j : Int) - 1) = (y : Int) := by have h := w64; unfold wrap64 at h; rw [IntKind.wrap_i64]; exact h
          have HEY := hide ey
          clear ey
          obtain ⟨q', hq⟩ : ∃ q', rot q j i (i + 1) = q' := ⟨_, rfl⟩
          have hst : swp q' j y = rot q y i (i + 1) := by rw [← hq, hy]; exact rot_prev q (by omega)
          have hqj : q' j = q i := by rw [← hq, rot_lo (by omega) (by omega)]; congr 1; omega
          have hqy : q' y = q y := by rw [← hq, rot_out (by omega) (by omega) (by omega)]
          rw [hq] at hP
          have hbn : i < n := by omega
          obtain ⟨c0, c1, c2, c3, c4, c5, c6⟩ := hP.at (i := j) (by omega)
          obtain ⟨d0, d1, d2, d3, d4, d5, d6⟩ := hP.at (i := y) (by omega)
          rw [hqj] at c1 c6
          rw [hqy] at d1 d6
          have bx : (j : Int) < (n : Int) := by omega
          have ba : (y : Int) < (n : Int) := by omega
          have hga : (a : Int) < (j : Int) := by omega
          have HPi := hide hP
          have HK := hide hK
          have HY := hide hy
          have HST := hide hst
          have HQJ := hide hqj
          have HQY := hide hqy
          have HQ := hide hq
          clear hst hqj hqy hq hP hK hy
          obtain ⟨kx, hkx⟩ : ∃ kx, kp (q i) = kx := ⟨_, rfl⟩
          obtain ⟨ky, hky⟩ : ∃ ka, kp (q y) = ka := ⟨_, rfl⟩
          rw [hkx] at c6
          rw [hky] at d6
          have HKX := hide hkx
          have HKY := hide hky
          clear hkx hky
          obtain ⟨nx, hnx⟩ : ∃ nx, nam (q i) = nx := ⟨_, rfl⟩
          obtain ⟨ny, hny⟩ : ∃ nx, nam (q y) = nx := ⟨_, rfl⟩
          rw [hnx] at c1
          rw [hny] at d1
          have HNX := hide hnx
          have HNY := hide hny
          clear hnx hny
          by_cases hcm : kx < ky
          · have hcz : cmpI kx ky < 0 := (cmpI_neg kx ky).2 hcm
            have HCM := hide hcm
            clear hcm
            go_wp2_with fail
            go_region_held3 (fun w' => w'.cell? ⟨g, j * 7, none⟩ = some (.string f) ∧ w'.cell? ⟨g, j * 7 + 1, none⟩ = some (.string nx) ∧ w'.cell? ⟨g, j * 7 + 2, none⟩ = some (.string ByteArray.empty) ∧ w'.cell? ⟨g, j * 7 + 3, none⟩ = some (.string ByteArray.empty) ∧ w'.cell? ⟨g, j * 7 + 4, none⟩ = some (.string ByteArray.empty) ∧ w'.cell? ⟨g, j * 7 + 5, none⟩ = some (.int .i64 0) ∧ w'.cell? ⟨g, j * 7 + 6, none⟩ = some (.int .i64 kx) ∧ w'.cell? ⟨g, y * 7, none⟩ = some (.string f) ∧ w'.cell? ⟨g, y * 7 + 1, none⟩ = some (.string ny) ∧ w'.cell? ⟨g, y * 7 + 2, none⟩ = some (.string ByteArray.empty) ∧ w'.cell? ⟨g, y * 7 + 3, none⟩ = some (.string ByteArray.empty) ∧ w'.cell? ⟨g, y * 7 + 4, none⟩ = some (.string ByteArray.empty) ∧ w'.cell? ⟨g, y * 7 + 5, none⟩ = some (.int .i64 0) ∧ w'.cell? ⟨g, y * 7 + 6, none⟩ = some (.int .i64 ky)) (go_keep)
              ((go_at_call 13; refine (byPlace_any f nx f ny kx ky _).mono ?_; rintro e w1 ⟨rfl, hw1⟩; have kc0 := keep2d hw1 c0; have kc1 := keep2d hw1 c1; have kc2 := keep2d hw1 c2; have kc3 := keep2d hw1 c3; have kc4 := keep2d hw1 c4; have kc5 := keep2d hw1 c5; have kc6 := keep2d hw1 c6; have kd0 := keep2d hw1 d0; have kd1 := keep2d hw1 d1; have kd2 := keep2d hw1 d2; have kd3 := keep2d hw1 d3; have kd4 := keep2d hw1 d4; have kd5 := keep2d hw1 d5; have kd6 := keep2d hw1 d6;))
            have hb2 : Below wr.heap.size wr w1 := by rw [hw1]; exact ((Below.refl _ _).drew.alloc (Nat.le_refl _) _).alloc (by simp) _
            have HP2 := hide (HPi.out.of_block (W' := w1) (hb2.block _ HPi.out.row.lt))
            have HK2 := hide (HK.out.trans (Kp.below hb2))
            have hW : ((wr.alloc (Obj.cells (pmC f nx kx).toArray 47)).alloc (Obj.cells (pmC f ny ky).toArray 47)).drew = w1 := by rw [hw1]; rfl
            rw [hW]
            clear hW hw1 hb2 HPi HK c0 c1 c2 c3 c4 c5 c6 d0 d1 d2 d3 d4 d5 d6
            have hfr : ∀ o, w1.frozen? ⟨g, o, none⟩ = false := fun o => by
              obtain ⟨cur, hg, _⟩ := HP2.out.row.row
              exact frozen_of_row w1 _ _ _ _ hg
            have hsw := HP2.out.swap (x := j) (y := y) (by omega) (by have := HY.out; omega)
            rw [HST.out, HQJ.out, HQY.out, HKX.out, HKY.out, HNX.out, HNY.out] at hsw
            have HSW := hide hsw
            clear hsw
            have hxy : j = y + 1 := HY.out
            have n01 : ¬ (j * 7 = y * 7 + 1) := by omega
            have m01 : ¬ (y * 7 + 1 = j * 7) := by omega
            have n02 : ¬ (j * 7 = y * 7 + 2) := by omega
            have m02 : ¬ (y * 7 + 2 = j * 7) := by omega
            have n03 : ¬ (j * 7 = y * 7 + 3) := by omega
            have m03 : ¬ (y * 7 + 3 = j * 7) := by omega
            have n04 : ¬ (j * 7 = y * 7 + 4) := by omega
            have m04 : ¬ (y * 7 + 4 = j * 7) := by omega
            have n05 : ¬ (j * 7 = y * 7 + 5) := by omega
            have m05 : ¬ (y * 7 + 5 = j * 7) := by omega
            have n06 : ¬ (j * 7 = y * 7 + 6) := by omega
            have m06 : ¬ (y * 7 + 6 = j * 7) := by omega
            have n10 : ¬ (j * 7 + 1 = y * 7) := by omega
            have m10 : ¬ (y * 7 = j * 7 + 1) := by omega
            have n12 : ¬ (j * 7 + 1 = y * 7 + 2) := by omega
            have m12 : ¬ (y * 7 + 2 = j * 7 + 1) := by omega
            have n13 : ¬ (j * 7 + 1 = y * 7 + 3) := by omega
            have m13 : ¬ (y * 7 + 3 = j * 7 + 1) := by omega
            have n14 : ¬ (j * 7 + 1 = y * 7 + 4) := by omega
            have m14 : ¬ (y * 7 + 4 = j * 7 + 1) := by omega
            have n15 : ¬ (j * 7 + 1 = y * 7 + 5) := by omega
            have m15 : ¬ (y * 7 + 5 = j * 7 + 1) := by omega
            have n16 : ¬ (j * 7 + 1 = y * 7 + 6) := by omega
            have m16 : ¬ (y * 7 + 6 = j * 7 + 1) := by omega
            have n20 : ¬ (j * 7 + 2 = y * 7) := by omega
            have m20 : ¬ (y * 7 = j * 7 + 2) := by omega
            have n21 : ¬ (j * 7 + 2 = y * 7 + 1) := by omega
            have m21 : ¬ (y * 7 + 1 = j * 7 + 2) := by omega
            have n23 : ¬ (j * 7 + 2 = y * 7 + 3) := by omega
            have m23 : ¬ (y * 7 + 3 = j * 7 + 2) := by omega
            have n24 : ¬ (j * 7 + 2 = y * 7 + 4) := by omega
            have m24 : ¬ (y * 7 + 4 = j * 7 + 2) := by omega
            have n25 : ¬ (j * 7 + 2 = y * 7 + 5) := by omega
            have m25 : ¬ (y * 7 + 5 = j * 7 + 2) := by omega
            have n26 : ¬ (j * 7 + 2 = y * 7 + 6) := by omega
            have m26 : ¬ (y * 7 + 6 = j * 7 + 2) := by omega
            have n30 : ¬ (j * 7 + 3 = y * 7) := by omega
            have m30 : ¬ (y * 7 = j * 7 + 3) := by omega
            have n31 : ¬ (j * 7 + 3 = y * 7 + 1) := by omega
            have m31 : ¬ (y * 7 + 1 = j * 7 + 3) := by omega
            have n32 : ¬ (j * 7 + 3 = y * 7 + 2) := by omega
            have m32 : ¬ (y * 7 + 2 = j * 7 + 3) := by omega
            have n34 : ¬ (j * 7 + 3 = y * 7 + 4) := by omega
            have m34 : ¬ (y * 7 + 4 = j * 7 + 3) := by omega
            have n35 : ¬ (j * 7 + 3 = y * 7 + 5) := by omega
            have m35 : ¬ (y * 7 + 5 = j * 7 + 3) := by omega
            have n36 : ¬ (j * 7 + 3 = y * 7 + 6) := by omega
            have m36 : ¬ (y * 7 + 6 = j * 7 + 3) := by omega
            have n40 : ¬ (j * 7 + 4 = y * 7) := by omega
            have m40 : ¬ (y * 7 = j * 7 + 4) := by omega
            have n41 : ¬ (j * 7 + 4 = y * 7 + 1) := by omega
            have m41 : ¬ (y * 7 + 1 = j * 7 + 4) := by omega
            have n42 : ¬ (j * 7 + 4 = y * 7 + 2) := by omega
            have m42 : ¬ (y * 7 + 2 = j * 7 + 4) := by omega
            have n43 : ¬ (j * 7 + 4 = y * 7 + 3) := by omega
            have m43 : ¬ (y * 7 + 3 = j * 7 + 4) := by omega
            have n45 : ¬ (j * 7 + 4 = y * 7 + 5) := by omega
            have m45 : ¬ (y * 7 + 5 = j * 7 + 4) := by omega
            have n46 : ¬ (j * 7 + 4 = y * 7 + 6) := by omega
            have m46 : ¬ (y * 7 + 6 = j * 7 + 4) := by omega
            have n50 : ¬ (j * 7 + 5 = y * 7) := by omega
            have m50 : ¬ (y * 7 = j * 7 + 5) := by omega
            have n51 : ¬ (j * 7 + 5 = y * 7 + 1) := by omega
            have m51 : ¬ (y * 7 + 1 = j * 7 + 5) := by omega
            have n52 : ¬ (j * 7 + 5 = y * 7 + 2) := by omega
            have m52 : ¬ (y * 7 + 2 = j * 7 + 5) := by omega
            have n53 : ¬ (j * 7 + 5 = y * 7 + 3) := by omega
            have m53 : ¬ (y * 7 + 3 = j * 7 + 5) := by omega
            have n54 : ¬ (j * 7 + 5 = y * 7 + 4) := by omega
            have m54 : ¬ (y * 7 + 4 = j * 7 + 5) := by omega
            have n56 : ¬ (j * 7 + 5 = y * 7 + 6) := by omega
            have m56 : ¬ (y * 7 + 6 = j * 7 + 5) := by omega
            have n60 : ¬ (j * 7 + 6 = y * 7) := by omega
            have m60 : ¬ (y * 7 = j * 7 + 6) := by omega
            have n61 : ¬ (j * 7 + 6 = y * 7 + 1) := by omega
            have m61 : ¬ (y * 7 + 1 = j * 7 + 6) := by omega
            have n62 : ¬ (j * 7 + 6 = y * 7 + 2) := by omega
            have m62 : ¬ (y * 7 + 2 = j * 7 + 6) := by omega
            have n63 : ¬ (j * 7 + 6 = y * 7 + 3) := by omega
            have m63 : ¬ (y * 7 + 3 = j * 7 + 6) := by omega
            have n64 : ¬ (j * 7 + 6 = y * 7 + 4) := by omega
            have m64 : ¬ (y * 7 + 4 = j * 7 + 6) := by omega
            have n65 : ¬ (j * 7 + 6 = y * 7 + 5) := by omega
            have m65 : ¬ (y * 7 + 5 = j * 7 + 6) := by omega
            have nxy : ¬ j = y := by omega
            have nyx : ¬ y = j := by omega
            have ey := HEY.out
            clear hxy
            go_wp2_with fail
            go_region
            have HW : Hid (Pm B (swW w1 g j y f nx ny kx ky) g n f nam kp (rot q y i (i + 1))) := HSW
            have HK3 := hide (HK2.out.trans (Kp.swap w1 g j y f nx ny kx ky))
            obtain ⟨W2, hW2⟩ : ∃ W2, swW w1 g j y f nx ny kx ky = W2 := ⟨_, rfl⟩
            rw [hW2] at HW HK3
            simp only [swW, pmC, World.setCells, Nat.add_assoc, Nat.reduceAdd] at hW2
            rw [hW2]
            clear hW2 HSW HP2 HK2
            go_wp2_with fail
            go_roundw
            case rel => exact ⟨y, by have := HY.out; omega, by have := HY.out; omega, by go_num, HW.out, HK3.out, fun c h1 h2 => by
              by_cases h3 : j ≤ c
              · exact HHI.out c h3 h2
              · have h4 : c = y := by have := HY.out; omega
                rw [h4, HKX.out, HKY.out]; exact HCM.out⟩
            case measure => have := HY.out; simp [intOf]; omega
          · have hcz : ¬ cmpI kx ky < 0 := fun h => hcm ((cmpI_neg kx ky).1 h)
            have HCM := hide hcm
            clear hcm
            go_wp2_with fail
            go_region_held3 (fun w' => w'.cell? ⟨g, j * 7, none⟩ = some (.string f) ∧ w'.cell? ⟨g, j * 7 + 1, none⟩ = some (.string nx) ∧ w'.cell? ⟨g, j * 7 + 2, none⟩ = some (.string ByteArray.empty) ∧ w'.cell? ⟨g, j * 7 + 3, none⟩ = some (.string ByteArray.empty) ∧ w'.cell? ⟨g, j * 7 + 4, none⟩ = some (.string ByteArray.empty) ∧ w'.cell? ⟨g, j * 7 + 5, none⟩ = some (.int .i64 0) ∧ w'.cell? ⟨g, j * 7 + 6, none⟩ = some (.int .i64 kx) ∧ w'.cell? ⟨g, y * 7, none⟩ = some (.string f) ∧ w'.cell? ⟨g, y * 7 + 1, none⟩ = some (.string ny) ∧ w'.cell? ⟨g, y * 7 + 2, none⟩ = some (.string ByteArray.empty) ∧ w'.cell? ⟨g, y * 7 + 3, none⟩ = some (.string ByteArray.empty) ∧ w'.cell? ⟨g, y * 7 + 4, none⟩ = some (.string ByteArray.empty) ∧ w'.cell? ⟨g, y * 7 + 5, none⟩ = some (.int .i64 0) ∧ w'.cell? ⟨g, y * 7 + 6, none⟩ = some (.int .i64 ky)) (go_keep)
              ((go_at_call 13; refine (byPlace_any f nx f ny kx ky _).mono ?_; rintro e w1 ⟨rfl, hw1⟩; have kc0 := keep2d hw1 c0; have kc1 := keep2d hw1 c1; have kc2 := keep2d hw1 c2; have kc3 := keep2d hw1 c3; have kc4 := keep2d hw1 c4; have kc5 := keep2d hw1 c5; have kc6 := keep2d hw1 c6; have kd0 := keep2d hw1 d0; have kd1 := keep2d hw1 d1; have kd2 := keep2d hw1 d2; have kd3 := keep2d hw1 d3; have kd4 := keep2d hw1 d4; have kd5 := keep2d hw1 d5; have kd6 := keep2d hw1 d6;))
            have hb2 : Below wr.heap.size wr w1 := by rw [hw1]; exact ((Below.refl _ _).drew.alloc (Nat.le_refl _) _).alloc (by simp) _
            have HP2 := hide (HPi.out.of_block (W' := w1) (hb2.block _ HPi.out.row.lt))
            have HK2 := hide (HK.out.trans (Kp.below hb2))
            have hW : ((wr.alloc (Obj.cells (pmC f nx kx).toArray 47)).alloc (Obj.cells (pmC f ny ky).toArray 47)).drew = w1 := by rw [hw1]; rfl
            rw [hW]
            clear hW hw1 hb2 HPi HK kc0 kc1 kc2 kc3 kc4 kc5 kc6 kd0 kd1 kd2 kd3 kd4 kd5 kd6 c0 c1 c2 c3 c4 c5 c6 d0 d1 d2 d3 d4 d5 d6
            go_wp2_with fail
            go_roundw
            case rel =>
              have hq := HQ.out
              refine ⟨i + 1, rot q j i (i + 1), by omega, by omega, by go_num, .inl (by omega), hq ▸ HP2.out, HK2.out, ?_, (HR.out.wide (Nat.le_refl _) (by omega)).trans ((Re.rot q (by omega) (by omega)).wide (by omega) (Nat.le_refl _))⟩
              exact ins_step HIN.out HR.out HS.out hi1 hlt hj1 hj2 HHI.out (fun c h1 h2 => by
                have h3 := HS.out.mono (c := c) (d := y) h1 (by have := HY.out; omega) (by have := HY.out; omega)
                have h4 := HCM.out
                have := HKX.out
                have := HKY.out
                omega)
            case measure => simp [intOf]; omega
        · have hja2 : j = a := by omega
          have HPi := hide hP
          have HK := hide hK
          have hga : ¬ (a : Int) < (j : Int) := by omega
          clear hP hK
          go_wp2_with fail
          go_region
          go_wp2_with fail
          go_roundw
          case rel =>
            refine ⟨i + 1, rot q j i (i + 1), by omega, by omega, by go_num, .inl (by omega), HPi.out.of_block (W' := wr.drew) rfl, HK.out.trans (Kp.below (Below.refl _ _).drew), ?_, (HR.out.wide (Nat.le_refl _) (by omega)).trans ((Re.rot q (by omega) (by omega)).wide (by omega) (Nat.le_refl _))⟩
            exact ins_step HIN.out HR.out HS.out hi1 hlt hj1 hj2 HHI.out (fun c h1 h2 => by omega)
          case measure => simp [intOf]; omega
    · have hib : ¬ (i : Int) < (b : Int) := by omega
      go_wp2_with fail
      first | go_end0 | (simp only [Exit.inBlock, Exit.then]; refine bodyPost_ret (results_none rfl _ _ _) rfl ?_) | refine bodyPost_ret (results_none rfl _ _ _) rfl ?_
      exact ⟨rfl, q, (fun c d h1 h2 h3 => HS.out c d h1 h2 (by omega)), (by
        rcases HI3.out with h | h
        · have : i = b := by omega
          rw [← this]; exact HR.out
        · obtain ⟨s, t1, t2, t3, t4⟩ := HR.out
          have hs : ∀ x, s x = x := fun x => by
            by_cases hx : a ≤ x ∧ x < i
            · have := t3 x hx.1 hx.2; omega
            · exact t4 x hx
          have : q = p := funext fun x => by rw [t1, hs]
          rw [this]; exact Re.refl _ _ _), HP.out, HK.out⟩
end Go.Proofs.Ybulkedom
