import Derived.Test.YbulkedksFmtRows
import Derived.WalkKit
import Derived.WalkSpells
import Derived.WalkLawsBesides
namespace Go.Proofs.YbulkedksFmt
open Go.RowKit
set_option linter.unusedVariables false

theorem hide {p : Prop} (h : p) : Hid p := h

theorem ret_bool {a b : Bool} (h : a = b) : Ending.returned (.bool a) = .returned (.bool b) := by rw [h]

/-- A lower-case hex digit. -/
def okc (c : UInt8) : Bool := (48 ≤ c && c ≤ 57) || (97 ≤ c && c ≤ 102)
/-- 64 lower-case hex digits. -/
def sumB (s : ByteArray) : Bool := s.size == 64 && s.data.toList.all okc

theorem okc_iff (c : UInt8) : okc c = true ↔ ((48 ≤ (c.toNat : Int) ∧ (c.toNat : Int) ≤ 57) ∨ (97 ≤ (c.toNat : Int) ∧ (c.toNat : Int) ≤ 102)) := by
  unfold okc
  simp [UInt8.le_iff_toNat_le]
  omega

theorem take_snoc (s : ByteArray) (k : Nat) (h : k < s.size) : s.data.toList.take (k + 1) = s.data.toList.take k ++ [s[k]] := by
  rw [List.take_succ_eq_append_getElem (by simpa using h)]; rfl

theorem sumB_bad {s : ByteArray} {k : Nat} (h : k < s.size) (hb : okc s[k] = false) : sumB s = false := by
  unfold sumB
  rw [Bool.and_eq_false_iff]
  right
  rw [List.all_eq_false]
  exact ⟨s[k], by simp [ByteArray.getElem_eq_getElem_data], by simp [hb]⟩

theorem sumB_good {s : ByteArray} (h : s.size = 64) (hb : ((s.data.toList.take 64).all okc) = true) : sumB s = true := by
  unfold sumB
  rw [List.take_of_length_le (by simp; omega)] at hb
  simp [h, hb]

theorem all_snoc (s : ByteArray) (k : Nat) (h : k < s.size) (h1 : ((s.data.toList.take k).all okc) = true) (h2 : okc s[k] = true) : ((s.data.toList.take (k + 1)).all okc) = true := by
  rw [take_snoc s k h]; simp [h1, h2]

set_option maxHeartbeats 400000 in
theorem isSum_any (s : ByteArray) (w : World) (hs : s.size ≤ maxLen) :
    Calls Ybaf.prog 14 #[.string s] w fun e w' => e = .returned (.bool (sumB s)) ∧ w' = w := by
  unfold maxLen at hs
  by_cases h64 : s.size = 64
  · go_enter Ybaf.func14, Ybaf.ntmps14
    go_wp2
    go_loop [9] (fun i => ∃ k : Nat, k ≤ 64 ∧ i = .int .i64 k ∧ Hid ((s.data.toList.take k).all okc = true)) (fun i => 64 - (intOf i).toNat)
    case atStart => exact ⟨0, by omega, rfl, by simp [Hid]⟩
    case round =>
      obtain ⟨k, hk, rfl, hall⟩ := hrel
      by_cases hlt : k < 64
      · have hks : k < s.size := by omega
        have hc : (48 ≤ (s[k].toNat : Int) ∧ (s[k].toNat : Int) ≤ 57) ∨ (97 ≤ (s[k].toNat : Int) ∧ (s[k].toNat : Int) ≤ 102) ∨ ((s[k].toNat : Int) < 48) ∨ (57 < (s[k].toNat : Int) ∧ (s[k].toNat : Int) < 97) ∨ 102 < (s[k].toNat : Int) := by omega
        have good : ((48 ≤ (s[k].toNat : Int) ∧ (s[k].toNat : Int) ≤ 57) ∨ (97 ≤ (s[k].toNat : Int) ∧ (s[k].toNat : Int) ≤ 102)) → okc s[k] = true := (okc_iff _).2
        have bad : ¬((48 ≤ (s[k].toNat : Int) ∧ (s[k].toNat : Int) ≤ 57) ∨ (97 ≤ (s[k].toNat : Int) ∧ (s[k].toNat : Int) ≤ 102)) → okc s[k] = false := fun h => by
          rw [← Bool.not_eq_true, okc_iff]; exact h
        have HG := hide good
        have HB := hide bad
        clear good bad hc
        go_wp2
        all_goals first
          | (go_ret; exact ⟨ret_bool (sumB_bad hks (HB.out (by omega))).symm, rfl⟩)
          | (go_round
             case rel => exact ⟨k + 1, by omega, by go_num, all_snoc s k hks hall.out (HG.out (by omega))⟩
             case measure => simp [intOf]; omega)
      · have : k = 64 := by omega
        subst this
        go_wp2
        go_ret
        exact ⟨ret_bool (sumB_good h64 hall.out).symm, rfl⟩
  · have hf : sumB s = false := by simp [sumB, h64]
    have H : Hid (sumB s = false) := hf
    clear hf
    go_enter Ybaf.func14, Ybaf.ntmps14
    go_wp2
    go_ret
    exact ⟨ret_bool H.out.symm, rfl⟩

set_option maxHeartbeats 400000 in
theorem ValidSum_any (s : ByteArray) (w : World) (hs : s.size ≤ maxLen) :
    Calls Ybaf.prog 10 #[.string s] w fun e w' => e = .returned (.bool (sumB s)) ∧ w' = w := by
  go_enter Ybaf.func10, Ybaf.ntmps10
  go_wp2_with (go_at_call 14; refine (isSum_any _ _ hs).mono ?_; rintro e w' ⟨rfl, rfl⟩)
  go_ret
  exact ⟨rfl, rfl⟩

set_option maxHeartbeats 400000 in
theorem issum_any (s : ByteArray) (w : World) (hs : s.size ≤ maxLen) :
    Calls Ybaf.prog 7 #[.string s] w fun e w' => e = .returned (.bool (sumB s)) ∧ w' = w := by
  unfold maxLen at hs
  by_cases h64 : s.size = 64
  · go_enter Ybaf.func7, Ybaf.ntmps7
    go_wp2
    go_loop [3] (fun i => ∃ k : Nat, k ≤ 64 ∧ i = .int .i64 k ∧ Hid ((s.data.toList.take k).all okc = true)) (fun i => 64 - (intOf i).toNat)
    case atStart => exact ⟨0, by omega, rfl, by simp [Hid]⟩
    case round =>
      obtain ⟨k, hk, rfl, hall⟩ := hrel
      by_cases hlt : k < 64
      · have hks : k < s.size := by omega
        have good : ((48 ≤ (s[k].toNat : Int) ∧ (s[k].toNat : Int) ≤ 57) ∨ (97 ≤ (s[k].toNat : Int) ∧ (s[k].toNat : Int) ≤ 102)) → okc s[k] = true := (okc_iff _).2
        have bad : ¬((48 ≤ (s[k].toNat : Int) ∧ (s[k].toNat : Int) ≤ 57) ∨ (97 ≤ (s[k].toNat : Int) ∧ (s[k].toNat : Int) ≤ 102)) → okc s[k] = false := fun h => by
          rw [← Bool.not_eq_true, okc_iff]; exact h
        have HG := hide good
        have HB := hide bad
        clear good bad
        have hc : (48 ≤ (s[k].toNat : Int) ∧ (s[k].toNat : Int) ≤ 57) ∨ (97 ≤ (s[k].toNat : Int) ∧ (s[k].toNat : Int) ≤ 102) ∨ ((s[k].toNat : Int) < 48) ∨ (57 < (s[k].toNat : Int) ∧ (s[k].toNat : Int) < 97) ∨ 102 < (s[k].toNat : Int) := by omega
        clear hc
        rcases (show (((s[k].toNat : Int) ≤ 57) ∧ decide ((s[k].toNat : Int) ≤ 57) = true) ∨ ((57 < (s[k].toNat : Int)) ∧ decide ((s[k].toNat : Int) ≤ 57) = false) by simp; omega) with ⟨h1, d1⟩ | ⟨h1, d1⟩
        all_goals rcases (show (((s[k].toNat : Int) ≤ 102) ∧ decide ((s[k].toNat : Int) ≤ 102) = true) ∨ ((102 < (s[k].toNat : Int)) ∧ decide ((s[k].toNat : Int) ≤ 102) = false) by simp; omega) with ⟨h2, d2⟩ | ⟨h2, d2⟩
        all_goals try (exfalso; omega)
        all_goals go_wp2
        all_goals first
          | (go_ret; exact ⟨ret_bool (sumB_bad hks (HB.out (by omega))).symm, rfl⟩)
          | (go_round
             case rel => exact ⟨k + 1, by omega, by go_num, all_snoc s k hks hall.out (HG.out (by omega))⟩
             case measure => simp [intOf]; omega)
      · have : k = 64 := by omega
        subst this
        go_wp2
        go_ret
        exact ⟨ret_bool (sumB_good h64 hall.out).symm, rfl⟩
  · have hf : sumB s = false := by simp [sumB, h64]
    have H : Hid (sumB s = false) := hf
    clear hf
    go_enter Ybaf.func7, Ybaf.ntmps7
    go_wp2
    go_ret
    exact ⟨ret_bool H.out.symm, rfl⟩
end Go.Proofs.YbulkedksFmt
