import Derived.Test.YbulkedomSa
import Derived.Test.YbulkedomIn
import Derived.Test.YbulkedomStPl
namespace Go.Proofs.Ybulkedom
open Go.RowKit Go.Sort
set_option linter.unusedVariables false

set_option maxRecDepth 100000 in
set_option maxHeartbeats 8000000 in
/-- slices.stableCmpFunc. -/
theorem stable_any (B : Nat) (g n cap : Nat) (f : ByteArray) (nam : Nat → ByteArray) (kp : Nat → Int) (w : World) (hP : Pm B w g n f nam kp (fun i => i)) (hn : n ≤ 1048576) :
    Calls Yba.prog 14 #[.slice (some ⟨g, 0, none⟩) n cap, .int .i64 n, .func (.func 13) #[] #[]] w fun e w' => e = .returned (.tuple #[]) ∧ ∃ q, Srt kp q 0 n ∧ Re (fun i => i) q 0 n ∧ Pm B w' g n f nam kp q ∧ Kp g w w' := by
  have HP := hide hP
  clear hP
  go_enter Yba.func14, Yba.ntmps14
  go_wp2_with fail
  go_loopw [7, 8] (fun s t W => ∃ (A b : Nat) (q : Nat → Nat), A ≤ n ∧ s = .int .i64 A ∧ t = .int .i64 b ∧ Hid (b = A + 20 ∧ (∃ T, A = T * 20) ∧ Pm B W g n f nam kp q ∧ Kp g w W ∧ G1 kp 20 A q ∧ G2 20 q ∧ Re (fun i => i) q 0 n ∧ ∀ i, A ≤ i → q i = i)) (fun s t _ => n + 21 - (intOf t).toNat)
  case atStart => exact ⟨0, 20, fun i => i, by omega, rfl, rfl, hide ⟨rfl, ⟨0, rfl⟩, HP.out, Kp.refl _ _, G1.zero _ _ _, G2.id _, Re.refl _ _ _, fun i _ => rfl⟩⟩
  case round =>
    clear HP
    obtain ⟨A, b, q, hA, rfl, rfl, HX⟩ := hrel
    have hb : b = A + 20 := HX.out.1
    by_cases hlt : b ≤ n
    · obtain ⟨-, ⟨T, hT⟩, hP, hK, h1, h2, hR, hid⟩ := HX.out
      have HC := hide (ins_any B g n cap A b f nam kp q wr hP (by omega) hlt (by omega) (fun c d a1 a2 a3 => by rw [hid c a1, hid d (by omega)]; exact a2))
      have hnew : ∀ q', Srt kp q' A b → Re q q' A b → ((∃ T, b = T * 20) ∧ G1 kp 20 b q' ∧ G2 20 q' ∧ Re (fun i => i) q' 0 n ∧ ∀ i, b ≤ i → q' i = i) := fun q' hs hr =>
        ⟨⟨T + 1, by omega⟩, h1.put hT (by omega) hr hs, h2.put hT (by omega) hr, hR.trans (hr.wide (by omega) (by omega)), fun i hi => by rw [hr.out (by omega)]; exact hid i (by omega)⟩
      have HNEW := hide hnew
      have HK := hide hK
      have HB := hide hb
      clear hnew hP hK h1 h2 hR hid hT hb HX
      go_wp2_with fail
      refine HC.out.mono ?_
      rintro e w' ⟨rfl, q', hs, hr, hP', hK'⟩
      have HN := hide (HNEW.out q' hs hr)
      have HP' := hide hP'
      have HK' := hide (HK.out.trans hK')
      clear hs hr hP' hK' HC HNEW HK
      go_wp2_with fail
      go_roundw
      case rel => exact ⟨b, b + 20, q', by omega, rfl, by go_num, hide ⟨rfl, HN.out.1, HP'.out, HK'.out, HN.out.2⟩⟩
      case measure => have := HB.out; simp [intOf]; omega
    · obtain ⟨-, ⟨T, hT⟩, hP, hK, h1, h2, hR, hid⟩ := HX.out
      have HC := hide (ins_any B g n cap A n f nam kp q wr hP hA (Nat.le_refl _) (by omega) (fun c d a1 a2 a3 => by rw [hid c a1, hid d (by omega)]; exact a2))
      have hnew : ∀ q', Srt kp q' A n → Re q q' A n → (G1 kp 20 n q' ∧ G2 20 q' ∧ Re (fun i => i) q' 0 n) := fun q' hs hr =>
        ⟨h1.put hT (by omega) hr hs, h2.put hT (by omega) hr, hR.trans (hr.wide (by omega) (by omega))⟩
      have HNEW := hide hnew
      have HK := hide hK
      clear hnew hP hK h1 h2 hR hid hT hb HX
      go_wp2_with fail
      refine HC.out.mono ?_
      rintro e w' ⟨rfl, q', hs, hr, hP', hK'⟩
      have HN := hide (HNEW.out q' hs hr)
      have HP' := hide hP'
      have HK' := hide (HK.out.trans hK')
      clear hs hr hP' hK' HC HNEW HK
      go_wp2_with fail
      go_loopw [6] (fun s W => ∃ (s0 : Nat) (q : Nat → Nat), 20 ≤ s0 ∧ s0 ≤ 2 * n + 20 ∧ s = .int .i64 s0 ∧ Hid (Pm B W g n f nam kp q ∧ Kp g w W ∧ G1 kp s0 n q ∧ G2 s0 q ∧ Re (fun i => i) q 0 n)) (fun s _ => 2 * n + 21 - (intOf s).toNat)
      case atStart => exact ⟨20, q', by omega, by omega, rfl, hide ⟨HP'.out, HK'.out, HN.out⟩⟩
      case round =>
        clear HP' HK' HN
        obtain ⟨s, q2, hs1, hs2, rfl, HX⟩ := hrel
        by_cases hsn : s < n
        · obtain ⟨s2, hs3⟩ : ∃ s2 : Nat, 2 * s = s2 := ⟨_, rfl⟩
          have e2 : 2 * (s : Int) = (s2 : Int) := by omega
          have hs4 : s2 ≤ 2097152 := by omega
          have HS3 := hide hs3
          clear hs3
          go_wp2_with fail
          go_loopw [7, 8] (fun x t W => ∃ (A b : Nat) (q : Nat → Nat), A ≤ n ∧ x = .int .i64 A ∧ t = .int .i64 b ∧ Hid (b = A + s2 ∧ (∃ T, A = T * (2 * s)) ∧ Pm B W g n f nam kp q ∧ Kp g w W ∧ G1 kp (2 * s) A q ∧ G2 (2 * s) q ∧ G3 kp s A n q ∧ Re (fun i => i) q 0 n)) (fun _ t _ => n + s2 + 1 - (intOf t).toNat)
          case atStart => exact ⟨0, s2, q2, by omega, rfl, by go_num, hide ⟨by omega, ⟨0, by omega⟩, HX.out.1, HX.out.2.1, G1.zero _ _ _, HX.out.2.2.2.1.dbl, G3.of HX.out.2.2.1 HX.out.2.2.2.1, HX.out.2.2.2.2⟩⟩
          case round =>
            clear HX
            obtain ⟨A, b, q, hA, rfl, rfl, HX⟩ := hrel
            have hb : b = A + s2 := HX.out.1
            obtain ⟨c, hc⟩ : ∃ c : Nat, A + s = c := ⟨_, rfl⟩
            have ec : (A : Int) + (s : Int) = (c : Int) := by omega
            by_cases hlt : b ≤ n
            · obtain ⟨-, ⟨T, hT⟩, hP, hK, h1, h2, h3, hR⟩ := HX.out
              have hpre := h3.pre hT (b := b) (by have := HS3.out; omega) hlt
              rw [hc] at hpre
              have HC := hide (sym_any B g n cap f nam kp (by omega) (b - A) A c b q wr (Nat.le_refl _) (by omega) (by have := HS3.out; omega) hlt hP (hpre.1 (by have := HS3.out; omega)) hpre.2.1 hpre.2.2.1)
              unfold SymOk at HC
              have hnew : ∀ q', Srt kp q' A b → Re q q' A b → ((∃ T, b = T * (2 * s)) ∧ G1 kp (2 * s) b q' ∧ G2 (2 * s) q' ∧ G3 kp s b n q' ∧ Re (fun i => i) q' 0 n) := fun q' hs hr =>
                ⟨⟨T + 1, by rw [Nat.succ_mul]; have := HS3.out; omega⟩, h1.put hT (by have := HS3.out; omega) hr hs, h2.put hT (by have := HS3.out; omega) hr, h3.put (by omega) hr, hR.trans (hr.wide (by omega) (by omega))⟩
              have HNEW := hide hnew
              have HK := hide hK
              have HB := hide hb
              have hcn : c ≤ n := by have := HS3.out; omega
              clear hnew hP hK h1 h2 h3 hR hT hb HX hpre hc
              go_wp2_with fail
              refine HC.out.mono ?_
              rintro e w' ⟨rfl, q', hs, hr, hP', hK'⟩
              have HN := hide (HNEW.out q' hs hr)
              have HP' := hide hP'
              have HK' := hide (HK.out.trans hK')
              clear hs hr hP' hK' HC HNEW HK
              go_wp2_with fail
              go_roundw
              case rel => exact ⟨b, b + s2, q', by omega, rfl, by go_num, hide ⟨rfl, HN.out.1, HP'.out, HK'.out, HN.out.2⟩⟩
              case measure => have := HB.out; simp [intOf]; omega
            · obtain ⟨-, ⟨T, hT⟩, hP, hK, h1, h2, h3, hR⟩ := HX.out
              have hpre := h3.pre hT (b := n) (by have := HS3.out; omega) (Nat.le_refl _)
              rw [hc] at hpre
              have hnew : ∀ q', Srt kp q' A n → Re q q' A n → (G1 kp (2 * s) n q' ∧ G2 (2 * s) q' ∧ Re (fun i => i) q' 0 n) := fun q' hs hr =>
                ⟨h1.put hT (by have := HS3.out; omega) hr hs, h2.put hT (by have := HS3.out; omega) hr, hR.trans (hr.wide (by omega) (by omega))⟩
              have HNEW := hide hnew
              have HK := hide hK
              have e3 : (s : Int) * 2 = (s2 : Int) := by omega
              by_cases hcn : c < n
              · have HC := hide (sym_any B g n cap f nam kp (by omega) (n - A) A c n q wr (Nat.le_refl _) (by omega) hcn (Nat.le_refl _) hP (hpre.1 (by omega)) hpre.2.1 hpre.2.2.1)
                unfold SymOk at HC
                clear hnew hP hK h1 h2 h3 hR hT hb HX hpre hc
                go_wp2_with fail
                refine HC.out.mono ?_
                rintro e w' ⟨rfl, q', hs, hr, hP', hK'⟩
                have HN := hide (HNEW.out q' hs hr)
                have HP' := hide hP'
                have HK' := hide (HK.out.trans hK')
                clear hs hr hP' hK' HC HNEW HK
                go_wp2_with fail
                go_roundw
                case rel => exact ⟨s2, q', by have := HS3.out; omega, by have := HS3.out; omega, by go_num, hide (HS3.out ▸ ⟨HP'.out, HK'.out, HN.out⟩)⟩
                case measure => have := HS3.out; simp [intOf]; omega
              · have HN := hide (HNEW.out q (hpre.2.2.2 (by omega)) (Re.refl _ _ _))
                have HP' := hide hP
                clear hnew hP hK h1 h2 h3 hR hT hb HX hpre hc HNEW
                go_wp2_with fail
                go_roundw
                case rel => exact ⟨s2, q, by have := HS3.out; omega, by have := HS3.out; omega, by go_num, hide (HS3.out ▸ ⟨HP'.out, HK.out, HN.out⟩)⟩
                case measure => have := HS3.out; simp [intOf]; omega
        · go_wp2_with fail
          first | go_end0 | (simp only [Exit.inBlock, Exit.then]; refine bodyPost_ret (results_none rfl _ _ _) rfl ?_) | refine bodyPost_ret (results_none rfl _ _ _) rfl ?_
          exact ⟨rfl, q2, HX.out.2.2.1.all (by omega), HX.out.2.2.2.2, HX.out.1, HX.out.2.1⟩
end Go.Proofs.Ybulkedom
