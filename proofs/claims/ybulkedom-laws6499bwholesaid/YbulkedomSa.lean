import Derived.Test.YbulkedomSz
import Derived.Test.YbulkedomSyPl
namespace Go.Proofs.Ybulkedom
open Go.RowKit Go.Sort
set_option linter.unusedVariables false

theorem rot_id1 (p : Nat → Nat) (m e : Nat) (h : m ≤ e) : rot p m m e = p := by
  funext x
  rcases rot_cases p m m e x with ⟨b1, b2, e2⟩ | ⟨b1, b2, e2⟩ | ⟨b1, b2, e2⟩
  · rw [e2]; congr 1; omega
  · exfalso; omega
  · rw [e2]
theorem rot_id2 (p : Nat → Nat) (s m : Nat) (h : s ≤ m) : rot p s m m = p := by
  funext x
  rcases rot_cases p s m m x with ⟨b1, b2, e2⟩ | ⟨b1, b2, e2⟩ | ⟨b1, b2, e2⟩
  · exfalso; omega
  · rw [e2]; congr 1; omega
  · rw [e2]
theorem Srt.congr {kp : Nat → Int} {p q : Nat → Nat} {a b : Nat} (h : Srt kp p a b) (he : ∀ i, a ≤ i → i < b → q i = p i) : Srt kp q a b := by
  intro i j h1 h2 h3
  rw [he i h1 (by omega), he j (by omega) h3]; exact h i j h1 h2 h3
theorem Crs.congr {p q : Nat → Nat} {a m b : Nat} (h : Crs p a m b) (he : ∀ i, a ≤ i → i < b → q i = p i) : Crs q a m b := by
  intro i j h1 h2 h3 h4
  rw [he i h1 (by omega), he j (by omega) h4]; exact h i j h1 h2 h3 h4

/-- What symMerge gives. -/
def SymOk (B g n cap : Nat) (f : ByteArray) (nam : Nat → ByteArray) (kp : Nat → Int) (a m b : Nat) (p : Nat → Nat) (w : World) : Prop :=
  Calls Yba.prog 17 #[.slice (some ⟨g, 0, none⟩) n cap, .int .i64 a, .int .i64 m, .int .i64 b, .func (.func 13) #[] #[]] w fun e w' => e = .returned (.tuple #[]) ∧ ∃ p', Srt kp p' a b ∧ Re p p' a b ∧ Pm B w' g n f nam kp p' ∧ Kp g w w'

set_option maxRecDepth 100000 in
set_option maxHeartbeats 8000000 in
theorem sym_gen (B : Nat) (g n cap a m b : Nat) (f : ByteArray) (nam : Nat → ByteArray) (kp : Nat → Int) (p : Nat → Nat) (w : World) (hP : Pm B w g n f nam kp p) (ham : a + 1 < m) (hmb : m + 1 < b) (hb : b ≤ n) (hn : n ≤ 2305843009213693952)
    (hs1 : Srt kp p a m) (hs2 : Srt kp p m b) (hc : Crs p a m b)
    (IH : ∀ (a' m' b' : Nat) (p' : Nat → Nat) (w' : World), b' - a' < b - a → a' < m' → m' < b' → b' ≤ n → Pm B w' g n f nam kp p' → Srt kp p' a' m' → Srt kp p' m' b' → Crs p' a' m' b' → SymOk B g n cap f nam kp a' m' b' p' w') :
    SymOk B g n cap f nam kp a m b p w := by
  unfold SymOk
  have HP := hide hP
  have HS1 := hide hs1
  have HS2 := hide hs2
  have HC := hide hc
  have HIH := hide IH
  clear hP hs1 hs2 hc IH
  have e0 : ¬ (m : Int) - (a : Int) = 1 := by omega
  have e0b : ((m : Int) - (a : Int) == 1) = false := beq_eq_false_iff_ne.2 e0
  have e1 : ¬ (b : Int) - (m : Int) = 1 := by omega
  have e1b : ((b : Int) - (m : Int) == 1) = false := beq_eq_false_iff_ne.2 e1
  obtain ⟨mid, hmid⟩ : ∃ x : Nat, (a + b) / 2 = x := ⟨_, rfl⟩
  have hmd : a < mid ∧ mid < b := by omega
  have hmd2 : a + b ≤ mid + mid + 1 ∧ mid + mid ≤ a + b := by omega
  have emid : ((a : Int) + (b : Int)) / 2 = (mid : Int) := by omega
  obtain ⟨kk, hkk⟩ : ∃ x : Nat, mid + m = x := ⟨_, rfl⟩
  obtain ⟨k, hk⟩ : ∃ x : Nat, kk = x + 1 := ⟨mid + m - 1, by omega⟩
  have ek : (mid : Int) + (m : Int) = (kk : Int) := by omega
  have ek1 : (kk : Int) - 1 = (k : Int) := by omega
  obtain ⟨lo, hi, hlh⟩ : ∃ lo hi : Nat, (mid < m ∧ lo + b = kk ∧ hi = mid) ∨ (m ≤ mid ∧ lo = a ∧ hi = m) := by
    by_cases h : mid < m
    · exact ⟨kk - b, mid, .inl ⟨h, by omega, rfl⟩⟩
    · exact ⟨a, m, .inr ⟨by omega, rfl, rfl⟩⟩
  have HMD := hide hmd
  have HMD2 := hide hmd2
  have HLH := hide hlh
  have HK1 := hide hk
  have HKK := hide hkk
  have hbd : a ≤ lo ∧ lo ≤ hi ∧ hi ≤ m ∧ m + hi ≤ kk ∧ kk ≤ b + lo ∧ (lo = a ∨ b + lo = kk) ∧ (hi = m ∨ kk = hi + m) := by omega
  have HBD := hide hbd
  clear hmid hmd hmd2 hlh hk hkk hbd
  go_enter Yba.func17, Yba.ntmps17
  go_upto_if 140 with fail
  clear e0 e0b e1 e1b emid ek
  go_cut [20, 21] (fun s t W => s = .int .i64 lo ∧ t = .int .i64 hi ∧ W = w)
  case first =>
    as_aux_lemma =>
      rcases HLH.out with ⟨h1, h2, h3⟩ | ⟨h1, h2, h3⟩
      · have h4 : (kk : Int) - (b : Int) = (lo : Int) := by omega
        have w64lo : wrap64 (lo : Int) = (lo : Int) := by have := HBD.out; unfold wrap64; omega
        subst h3
        clear h2
        go_wp2_with fail
        go_meet
        case rel => exact ⟨rfl, rfl, rfl⟩
      · subst h2 h3
        go_wp2_with fail
        go_meet
        case rel => exact ⟨rfl, rfl, rfl⟩
  case rest =>
    as_aux_lemma =>
      obtain ⟨rfl, rfl, hwc⟩ := hcut
      obtain rfl := hwc.symm
      clear HLH HMD2
      have hlohi := HBD.out
      have hhim : hi ≤ m := by omega
      have hlh : lo ≤ hi := by omega
      have hkb : k ≤ 4611686018427387904 := by have := HK1.out; have := HKK.out; have := HMD.out; omega
      clear hlohi
      go_wp2_with fail
      clear ek1
      go_loopw [20, 21] (fun s t W => ∃ (i j : Nat), lo ≤ i ∧ i ≤ j ∧ j ≤ hi ∧ s = .int .i64 i ∧ t = .int .i64 j ∧ Pm B W g n f nam kp p ∧ Kp g w W ∧ (∀ c, lo ≤ c → c < i → kp (p c) ≤ kp (p (kk - 1 - c))) ∧ (∀ c, j ≤ c → c < hi → kp (p (kk - 1 - c)) < kp (p c))) (fun s t _ => (intOf t).toNat - (intOf s).toNat)
      case atStart => exact ⟨lo, hi, by omega, by omega, by omega, rfl, rfl, HP.out, Kp.refl _ _, fun c h1 h2 => by omega, fun c h1 h2 => by omega⟩
      case round =>
        clear HP
        obtain ⟨i, j, hli, hij, hj, rfl, rfl, hP, hK, hlo, hhi⟩ := hrel
        have HLO := hide hlo
        have HHI := hide hhi
        clear hlo hhi
        by_cases hlt : i < j
        · obtain ⟨x, hx⟩ : ∃ x : Nat, (i + j) / 2 = x := ⟨_, rfl⟩
          have ex : ((i : Int) + (j : Int)) / 2 = (x : Int) := by omega
          obtain ⟨m0, hm0⟩ : ∃ y : Nat, kk - 1 - x = y := ⟨_, rfl⟩
          have hbd := HBD.out
          have hkk := HK1.out
          have em0 : (k : Int) - (x : Int) = (m0 : Int) := by omega
          have hm0b : m ≤ m0 ∧ m0 < b := by omega
          clear hbd
          obtain ⟨c0, c1, c2, c3, c4, c5, c6⟩ := hP.at (i := x) (by omega)
          obtain ⟨d0, d1, d2, d3, d4, d5, d6⟩ := hP.at (i := m0) (by omega)
          have bx : (x : Int) < (n : Int) := by omega
          have ba : (m0 : Int) < (n : Int) := by omega
          have w64 : wrap64 ((k : Int) - (x : Int)) = (m0 : Int) := by rw [em0]; unfold wrap64; omega
          have w64b : IntKind.i64.wrap ((k : Int) - (x : Int)) = (m0 : Int) := by have h := w64; unfold wrap64 at h; rw [IntKind.wrap_i64]; exact h
          have bm0 : (0 : Int) ≤ (m0 : Int) := by omega
          clear em0
          have HPi := hide hP
          have HK := hide hK
          have hxij : i ≤ x ∧ x < j := by omega
          have hlo2 : ¬ kp (p m0) < kp (p x) → ∀ c, lo ≤ c → c < x + 1 → kp (p c) ≤ kp (p (kk - 1 - c)) := fun h c h1 h2 => by
            have hbd := HBD.out
            have t1 := HS1.out.mono (c := c) (d := x) (by omega) (by omega) (by omega)
            have t2 := HS2.out.mono (c := m0) (d := kk - 1 - c) (by omega) (by omega) (by omega)
            omega
          have hhi2 : kp (p m0) < kp (p x) → ∀ c, x ≤ c → c < hi → kp (p (kk - 1 - c)) < kp (p c) := fun h c h1 h2 => by
            have hbd := HBD.out
            have t1 := HS1.out.mono (c := x) (d := c) (by omega) (by omega) (by omega)
            have t2 := HS2.out.mono (c := kk - 1 - c) (d := m0) (by omega) (by omega) (by omega)
            omega
          have HLO2 := hide hlo2
          have HHI2 := hide hhi2
          have HXJ := hide hxij
          clear hlo2 hhi2 hxij hkk hm0b hm0 hx
          obtain ⟨kx, hkx⟩ : ∃ kx, kp (p x) = kx := ⟨_, rfl⟩
          obtain ⟨ka, hka⟩ : ∃ ka, kp (p m0) = ka := ⟨_, rfl⟩
          rw [hkx] at c6
          rw [hka] at d6
          have HKX := hide hkx
          have HKA := hide hka
          clear hkx hka
          generalize nam (p x) = nx at c1
          generalize nam (p m0) = na at d1
          clear hP hK
          by_cases hcm : ka < kx
          · have hcz : cmpI ka kx < 0 := (cmpI_neg ka kx).2 hcm
            have HCM : Hid (kp (p m0) < kp (p x)) := by show _ < _; rw [HKX.out, HKA.out]; exact hcm
            clear hcm
            go_wp2_with fail
            go_region_held3 (fun w' => w'.cell? ⟨g, x * 7, none⟩ = some (.string f) ∧ w'.cell? ⟨g, x * 7 + 1, none⟩ = some (.string nx) ∧ w'.cell? ⟨g, x * 7 + 2, none⟩ = some (.string ByteArray.empty) ∧ w'.cell? ⟨g, x * 7 + 3, none⟩ = some (.string ByteArray.empty) ∧ w'.cell? ⟨g, x * 7 + 4, none⟩ = some (.string ByteArray.empty) ∧ w'.cell? ⟨g, x * 7 + 5, none⟩ = some (.int .i64 0) ∧ w'.cell? ⟨g, x * 7 + 6, none⟩ = some (.int .i64 kx) ∧ w'.cell? ⟨g, m0 * 7, none⟩ = some (.string f) ∧ w'.cell? ⟨g, m0 * 7 + 1, none⟩ = some (.string na) ∧ w'.cell? ⟨g, m0 * 7 + 2, none⟩ = some (.string ByteArray.empty) ∧ w'.cell? ⟨g, m0 * 7 + 3, none⟩ = some (.string ByteArray.empty) ∧ w'.cell? ⟨g, m0 * 7 + 4, none⟩ = some (.string ByteArray.empty) ∧ w'.cell? ⟨g, m0 * 7 + 5, none⟩ = some (.int .i64 0) ∧ w'.cell? ⟨g, m0 * 7 + 6, none⟩ = some (.int .i64 ka)) (go_keep)
              ((go_at_call 13; refine (byPlace_any f na f nx ka kx _).mono ?_; rintro e w1 ⟨rfl, hw1⟩; have kc0 := keep2d hw1 c0; have kc1 := keep2d hw1 c1; have kc2 := keep2d hw1 c2; have kc3 := keep2d hw1 c3; have kc4 := keep2d hw1 c4; have kc5 := keep2d hw1 c5; have kc6 := keep2d hw1 c6; have kd0 := keep2d hw1 d0; have kd1 := keep2d hw1 d1; have kd2 := keep2d hw1 d2; have kd3 := keep2d hw1 d3; have kd4 := keep2d hw1 d4; have kd5 := keep2d hw1 d5; have kd6 := keep2d hw1 d6;))
            have hb2 : Below wr.heap.size wr w1 := by rw [hw1]; exact ((Below.refl _ _).drew.alloc (Nat.le_refl _) _).alloc (by simp) _
            have HP2 := hide (HPi.out.of_block (W' := w1) (hb2.block _ HPi.out.row.lt))
            have HK2 := hide (HK.out.trans (Kp.below hb2))
            have hW : ((wr.alloc (Obj.cells (pmC f na ka).toArray 47)).alloc (Obj.cells (pmC f nx kx).toArray 47)).drew = w1 := by rw [hw1]; rfl
            rw [hW]
            clear hW hw1 hb2 HPi HK kc0 kc1 kc2 kc3 kc4 kc5 kc6 kd0 kd1 kd2 kd3 kd4 kd5 kd6 c0 c1 c2 c3 c4 c5 c6 d0 d1 d2 d3 d4 d5 d6
            go_wp2_with fail
            go_roundw
            case rel => exact ⟨i, x, by omega, by have := HXJ.out; omega, by have := HXJ.out; omega, rfl, by go_num, HP2.out, HK2.out, HLO.out, HHI2.out HCM.out⟩
            case measure => have := HXJ.out; simp [intOf]; omega
          · have hcz : ¬ cmpI ka kx < 0 := fun h => hcm ((cmpI_neg ka kx).1 h)
            have HCM : Hid (¬ kp (p m0) < kp (p x)) := by show ¬ _; rw [HKX.out, HKA.out]; exact hcm
            clear hcm
            go_wp2_with fail
            go_region_held3 (fun w' => w'.cell? ⟨g, x * 7, none⟩ = some (.string f) ∧ w'.cell? ⟨g, x * 7 + 1, none⟩ = some (.string nx) ∧ w'.cell? ⟨g, x * 7 + 2, none⟩ = some (.string ByteArray.empty) ∧ w'.cell? ⟨g, x * 7 + 3, none⟩ = some (.string ByteArray.empty) ∧ w'.cell? ⟨g, x * 7 + 4, none⟩ = some (.string ByteArray.empty) ∧ w'.cell? ⟨g, x * 7 + 5, none⟩ = some (.int .i64 0) ∧ w'.cell? ⟨g, x * 7 + 6, none⟩ = some (.int .i64 kx) ∧ w'.cell? ⟨g, m0 * 7, none⟩ = some (.string f) ∧ w'.cell? ⟨g, m0 * 7 + 1, none⟩ = some (.string na) ∧ w'.cell? ⟨g, m0 * 7 + 2, none⟩ = some (.string ByteArray.empty) ∧ w'.cell? ⟨g, m0 * 7 + 3, none⟩ = some (.string ByteArray.empty) ∧ w'.cell? ⟨g, m0 * 7 + 4, none⟩ = some (.string ByteArray.empty) ∧ w'.cell? ⟨g, m0 * 7 + 5, none⟩ = some (.int .i64 0) ∧ w'.cell? ⟨g, m0 * 7 + 6, none⟩ = some (.int .i64 ka)) (go_keep)
              ((go_at_call 13; refine (byPlace_any f na f nx ka kx _).mono ?_; rintro e w1 ⟨rfl, hw1⟩; have kc0 := keep2d hw1 c0; have kc1 := keep2d hw1 c1; have kc2 := keep2d hw1 c2; have kc3 := keep2d hw1 c3; have kc4 := keep2d hw1 c4; have kc5 := keep2d hw1 c5; have kc6 := keep2d hw1 c6; have kd0 := keep2d hw1 d0; have kd1 := keep2d hw1 d1; have kd2 := keep2d hw1 d2; have kd3 := keep2d hw1 d3; have kd4 := keep2d hw1 d4; have kd5 := keep2d hw1 d5; have kd6 := keep2d hw1 d6;))
            have hb2 : Below wr.heap.size wr w1 := by rw [hw1]; exact ((Below.refl _ _).drew.alloc (Nat.le_refl _) _).alloc (by simp) _
            have HP2 := hide (HPi.out.of_block (W' := w1) (hb2.block _ HPi.out.row.lt))
            have HK2 := hide (HK.out.trans (Kp.below hb2))
            have hW : ((wr.alloc (Obj.cells (pmC f na ka).toArray 47)).alloc (Obj.cells (pmC f nx kx).toArray 47)).drew = w1 := by rw [hw1]; rfl
            rw [hW]
            clear hW hw1 hb2 HPi HK kc0 kc1 kc2 kc3 kc4 kc5 kc6 kd0 kd1 kd2 kd3 kd4 kd5 kd6 c0 c1 c2 c3 c4 c5 c6 d0 d1 d2 d3 d4 d5 d6
            go_wp2_with fail
            rotate_left
            · (rename_i hbad; exfalso; rw [decide_eq_false (by omega)] at hbad; exact absurd hbad (by decide))
            go_roundw
            case rel => exact ⟨x + 1, j, by have := HXJ.out; omega, by have := HXJ.out; omega, by omega, by go_num, rfl, HP2.out, HK2.out, HLO2.out HCM.out, HHI.out⟩
            case measure => have := HXJ.out; simp [intOf]; omega
        · have : i = j := by omega
          subst this
          have HPi := hide hP
          have HK := hide hK
          clear hP hK
          have hbd := HBD.out
          have hkk := HK1.out
          have hmm := HKK.out
          obtain ⟨e, he⟩ : ∃ e : Nat, kk - i = e := ⟨_, rfl⟩
          have hL := find_lo HS1.out HS2.out HC.out (s := i) (k := kk) hbd.1 hli (by omega) hbd.2.2.2.2.2.1 (by omega) (by omega) (fun c h1 h2 => by have := HLO.out c h1 h2; omega)
          have hR := find_hi HS1.out HS2.out HC.out (s := i) (k := kk) (by omega) hj hbd.2.2.1 hbd.2.2.2.2.2.2 (by omega) (by omega) HHI.out
          rw [he] at hL hR
          have ee : (kk : Int) - (i : Int) = (e : Int) := by omega
          have hie : a ≤ i ∧ i ≤ m ∧ m ≤ e ∧ e ≤ b := by omega
          have hsp := sym_split (kp := kp) (p := p) (a := a) (m := m) (b := b) (mid := mid) (s := i) (e := e) (by omega) (by omega) HS1.out HS2.out HC.out hie.1 hie.2.1 hie.2.2.1 hie.2.2.2 (by omega) hL hR
          have HIE := hide hie
          have HSP := hide hsp
          obtain ⟨q1, hq1⟩ : ∃ q1, rot p i m e = q1 := ⟨_, rfl⟩
          have HRE1 := hide ((Re.rot p hie.2.1 hie.2.2.1).wide hie.1 hie.2.2.2)
          rw [hq1] at HSP HRE1
          have HQ1 := hide hq1
          have hib : i ≤ n ∧ e ≤ n ∧ mid ≤ n := by have := HMD.out; omega
          clear HLO HHI hL hR hsp hie hbd hkk hmm he hlt hq1 hhim hlh hkb hj hij hli HBD HK1 HKK
          obtain ⟨bt, hbt⟩ : ∃ bt : Bool, decide (i < m ∧ m < e) = bt := ⟨_, rfl⟩
          have HBT := hide hbt
          clear hbt
          go_upto_region 39 with fail
          clear ee
          go_cut [185] (fun c W => c = .bool bt ∧ W = wr)
          case first =>
            as_aux_lemma =>
              by_cases h1 : i < m
              · by_cases h2 : m < e
                · have h3 := hide (show decide (i < m ∧ m < e) = true from decide_eq_true ⟨h1, h2⟩)
                  go_wp2_with fail
                  go_meet
                  case rel => exact ⟨by rw [← HBT.out, h3.out], rfl⟩
                · have h3 := hide (show decide (i < m ∧ m < e) = false from decide_eq_false (fun h => h2 h.2))
                  go_wp2_with fail
                  go_meet
                  case rel => exact ⟨by rw [← HBT.out, h3.out], rfl⟩
              · have h3 := hide (show decide (i < m ∧ m < e) = false from decide_eq_false (fun h => h1 h.1))
                go_wp2_with fail
                go_meet
                case rel => exact ⟨by rw [← HBT.out, h3.out], rfl⟩
          case rest =>
            as_aux_lemma =>
              obtain ⟨rfl, hwc⟩ := hcut
              obtain rfl := hwc.symm
              go_upto_if 185 with fail
              go_cut [24] (fun s W => s = .int .i64 e ∧ Pm B W g n f nam kp q1 ∧ Kp g w W)
              case first =>
                as_aux_lemma =>
                  cases bt with
                  | true =>
                    have h1 : i < m ∧ m < e := of_decide_eq_true HBT.out
                    have HR := hide (rotate_any B g n cap i m e f nam kp p (.func (.func 13) #[] #[]) wr HPi.out h1.1 h1.2 hib.2.1 (by omega))
                    go_wp2_with fail
                    refine HR.out.mono ?_
                    rintro e1 w1 ⟨rfl, hP1, hK1⟩
                    have HP1 := hide hP1
                    have HK1 := hide hK1
                    clear hP1 hK1
                    go_wp2_with fail
                    go_meet
                    case rel => exact ⟨rfl, by rw [← HQ1.out]; exact HP1.out, HK.out.trans HK1.out⟩
                  | false =>
                    have h1 : ¬ (i < m ∧ m < e) := of_decide_eq_false HBT.out
                    have h4 : q1 = p := by
                      rw [← HQ1.out]
                      have := HIE.out
                      by_cases h5 : i = m
                      · rw [h5]; exact rot_id1 p m e (by omega)
                      · rw [show e = m by omega]; exact rot_id2 p i m (by omega)
                    have HQ := hide h4
                    clear h4 h1
                    go_wp2_with fail
                    go_meet
                    case rel => exact ⟨rfl, by rw [HQ.out]; exact HPi.out, HK.out⟩
              case rest =>
                as_aux_lemma =>
                  obtain ⟨rfl, hP1, hK1⟩ := hcut
                  have HP1 := hide hP1
                  have HK1 := hide hK1
                  clear hP1 hK1 HPi HK HQ1
                  obtain ⟨bu, hbu⟩ : ∃ bt : Bool, decide (a < i ∧ i < mid) = bt := ⟨_, rfl⟩
                  have HBU := hide hbu
                  clear hbu
                  go_upto_region 41 with fail
                  go_cut [199] (fun c W => c = .bool bu ∧ W = wc)
                  case first =>
                    as_aux_lemma =>
                      by_cases h1 : a < i
                      · by_cases h2 : i < mid
                        · have h3 := hide (show decide (a < i ∧ i < mid) = true from decide_eq_true ⟨h1, h2⟩)
                          go_wp2_with fail
                          go_meet
                          case rel => exact ⟨by rw [← HBU.out, h3.out], rfl⟩
                        · have h3 := hide (show decide (a < i ∧ i < mid) = false from decide_eq_false (fun h => h2 h.2))
                          go_wp2_with fail
                          go_meet
                          case rel => exact ⟨by rw [← HBU.out, h3.out], rfl⟩
                      · have h3 := hide (show decide (a < i ∧ i < mid) = false from decide_eq_false (fun h => h1 h.1))
                        go_wp2_with fail
                        go_meet
                        case rel => exact ⟨by rw [← HBU.out, h3.out], rfl⟩
                  case rest =>
                    as_aux_lemma =>
                      obtain ⟨rfl, hwc2⟩ := hcut
                      obtain rfl := hwc2.symm
                      go_upto_if 199 with fail
                      go_cut [24] (fun s W => s = .int .i64 e ∧ ∃ q2, Re q1 q2 a mid ∧ Srt kp q2 a mid ∧ Pm B W g n f nam kp q2 ∧ Kp g w W)
                      case first =>
                        as_aux_lemma =>
                          cases bu with
                          | true =>
                            have h1 : a < i ∧ i < mid := of_decide_eq_true HBU.out
                            have HR := hide (HIH.out a i mid q1 wc (by have := HMD.out; omega) h1.1 h1.2 hib.2.2 HP1.out HSP.out.2.1 HSP.out.2.2.1 HSP.out.2.2.2.2.2.1)
                            unfold SymOk at HR
                            go_wp2_with fail
                            refine HR.out.mono ?_
                            rintro e1 w1 ⟨rfl, q2, hs, hr, hP2, hK2⟩
                            have HX := hide (And.intro hr (And.intro hs (And.intro hP2 hK2)))
                            clear hs hr hP2 hK2
                            go_wp2_with fail
                            go_meet
                            case rel => exact ⟨rfl, q2, HX.out.1, HX.out.2.1, HX.out.2.2.1, HK1.out.trans HX.out.2.2.2⟩
                          | false =>
                            have h1 : ¬ (a < i ∧ i < mid) := of_decide_eq_false HBU.out
                            have h4 : Srt kp q1 a mid := by
                              have := HIE.out
                              have := HSP.out.1
                              by_cases h5 : a = i
                              · rw [h5]; exact HSP.out.2.2.1
                              · rw [show mid = i by omega]; exact HSP.out.2.1
                            have HQ := hide h4
                            clear h4 h1
                            go_wp2_with fail
                            go_meet
                            case rel => exact ⟨rfl, q1, Re.refl _ _ _, HQ.out, HP1.out, HK1.out⟩
                      case rest =>
                        as_aux_lemma =>
                          obtain ⟨rfl, q2, hr2, hs2, hP2, hK2⟩ := hcut
                          have hsq : Srt kp q2 mid e ∧ Srt kp q2 e b ∧ Crs q2 mid e b := by
                            have h0 := HSP.out
                            have he : ∀ x, mid ≤ x → q2 x = q1 x := fun x hx => hr2.out (by omega)
                            exact ⟨h0.2.2.2.1.congr fun x h1 h2 => he x h1, h0.2.2.2.2.1.congr fun x h1 h2 => he x (by omega), h0.2.2.2.2.2.2.1.congr fun x h1 h2 => he x h1⟩
                          have HSQ := hide hsq
                          have HR2 := hide hr2
                          have HS2 := hide hs2
                          have HP2 := hide hP2
                          have HK2 := hide hK2
                          clear hsq hr2 hs2 hP2 hK2 HP1 HK1
                          have hlast : ∀ q3 W, Re q2 q3 mid b → Srt kp q3 mid b → Pm B W g n f nam kp q3 → Kp g w W → ∃ p', Srt kp p' a b ∧ Re p p' a b ∧ Pm B W g n f nam kp p' ∧ Kp g w W := fun q3 W hr3 hs3 hP3 hK3 =>
                            ⟨q3, Srt.join HR2.out hr3 HS2.out hs3 HSP.out.2.2.2.2.2.2.2, (HRE1.out.trans (HR2.out.wide (Nat.le_refl _) (by have := HMD.out; omega))).trans (hr3.wide (by have := HMD.out; omega) (Nat.le_refl _)), hP3, hK3⟩
                          have HLAST := hide hlast
                          clear hlast
                          by_cases h1 : mid < e
                          · by_cases h2 : e < b
                            · have HR := hide (HIH.out mid e b q2 wc (by have := HMD.out; omega) h1 h2 hb HP2.out HSQ.out.1 HSQ.out.2.1 HSQ.out.2.2)
                              unfold SymOk at HR
                              go_wp2_with fail
                              refine HR.out.mono ?_
                              rintro e1 w1 ⟨rfl, q3, hs, hr, hP3, hK3⟩
                              have HX := hide (And.intro hr (And.intro hs (And.intro hP3 hK3)))
                              clear hs hr hP3 hK3
                              go_wp2_with fail
                              first | go_end0 | (simp only [Exit.inBlock, Exit.then]; refine bodyPost_ret (results_none rfl _ _ _) rfl ?_) | refine bodyPost_ret (results_none rfl _ _ _) rfl ?_
                              exact ⟨rfl, HLAST.out q3 _ HX.out.1 HX.out.2.1 HX.out.2.2.1 (HK2.out.trans HX.out.2.2.2)⟩
                            · have h3 : e = b := by have := HIE.out; omega
                              have HQ : Hid (Srt kp q2 mid b) := h3 ▸ HSQ.out.1
                              go_wp2_with fail
                              first | go_end0 | (simp only [Exit.inBlock, Exit.then]; refine bodyPost_ret (results_none rfl _ _ _) rfl ?_) | refine bodyPost_ret (results_none rfl _ _ _) rfl ?_
                              exact ⟨rfl, HLAST.out q2 _ (Re.refl _ _ _) HQ.out HP2.out HK2.out⟩
                          · have h3 : e = mid := by have := HSP.out.1; omega
                            have HQ : Hid (Srt kp q2 mid b) := h3 ▸ HSQ.out.2.1
                            go_wp2_with fail
                            first | go_end0 | (simp only [Exit.inBlock, Exit.then]; refine bodyPost_ret (results_none rfl _ _ _) rfl ?_) | refine bodyPost_ret (results_none rfl _ _ _) rfl ?_
                            exact ⟨rfl, HLAST.out q2 _ (Re.refl _ _ _) HQ.out HP2.out HK2.out⟩
theorem sym_any (B g n cap : Nat) (f : ByteArray) (nam : Nat → ByteArray) (kp : Nat → Int) (hn : n ≤ 2305843009213693952) : ∀ (d a m b : Nat) (p : Nat → Nat) (w : World), b - a ≤ d → a < m → m < b → b ≤ n → Pm B w g n f nam kp p → Srt kp p a m → Srt kp p m b → Crs p a m b → SymOk B g n cap f nam kp a m b p w := by
  intro d
  induction d with
  | zero => intro a m b p w h0 h1 h2; omega
  | succ d ih =>
    intro a m b p w hd h1 h2 hb hP hs1 hs2 hc
    by_cases e1 : m = a + 1
    · refine (sym_one B g n cap a m b f nam kp p w hP e1 h2 hb (by omega) (fun c d h3 h4 h5 => hs2.mono h3 h4 h5)).mono ?_
      rintro e w' ⟨rfl, i, hi1, hi2, hlo, hhi, hP', hK⟩
      refine ⟨rfl, _, one_srt e1 hi1 hi2 hs2 (fun c h3 h4 => (lt_back (hc a c (by omega) (by omega) h3 (by omega))).2 (hlo c h3 h4)) (fun c h3 h4 => (lt_fore (hc a c (by omega) (by omega) (by omega) h4)).2 (by have := hhi c h3 h4; omega)), ?_, hP', hK⟩
      exact (Re.rot p (by omega) hi1).wide (by omega) hi2
    · by_cases e2 : b = m + 1
      · refine (sym_last B g n cap a m b f nam kp p w hP e2 (by omega) hb (by omega) (fun c d h3 h4 h5 => hs1.mono h3 h4 h5)).mono ?_
        rintro e w' ⟨rfl, i, hi1, hi2, hlo, hhi, hP', hK⟩
        refine ⟨rfl, _, last_srt e2 hi1 hi2 hs1 (fun c h3 h4 => (lt_fore (hc c m h3 (by omega) (by omega) (by omega))).2 (by have := hlo c h3 h4; omega)) (fun c h3 h4 => (lt_back (hc c m (by omega) h4 (by omega) (by omega))).2 (hhi c h3 h4)), ?_, hP', hK⟩
        exact (Re.rot p hi2 (by omega)).wide hi1 (by omega)
      · exact sym_gen B g n cap a m b f nam kp p w hP (by omega) (by omega) hb hn hs1 hs2 hc (fun a' m' b' p' w' h3 => ih a' m' b' p' w' (by omega))
end Go.Proofs.Ybulkedom
