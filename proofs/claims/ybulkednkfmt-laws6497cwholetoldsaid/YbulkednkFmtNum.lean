import Derived.Test.YbulkednkFmtRows
import Derived.WalkKit
import Derived.WalkSpells
import Derived.WalkLawsBesides
import Derived.Lib.AtoiAll
namespace Go.Proofs.YbulkednkFmt
open Go.RowKit
set_option linter.unusedVariables false

theorem hide {p : Prop} (h : p) : Hid p := h
theorem ret_eq {a b : Value} (h : a = b) : Ending.returned a = .returned b := by rw [h]

/-! ### the plain side of zzs6497cnum -/
def numP (v : Nat) : List UInt8 → Option Nat
  | [] => some v
  | c :: r => if 48 ≤ c.toNat ∧ c.toNat ≤ 57 then (if 9223372036854775807 < v * 10 + (c.toNat - 48) then none else numP (v * 10 + (c.toNat - 48)) r) else none
def numN (az : Bool) : List UInt8 → Option Nat
  | [] => if az then some 0 else none
  | c :: r => if 48 ≤ c.toNat ∧ c.toNat ≤ 57 then numN (az && c.toNat == 48) r else none
def numOf : List UInt8 → Option Nat
  | [] => none
  | c :: r => if c.toNat = 45 then (if r = [] then none else numN true r) else if c.toNat = 43 then (if r = [] then none else numP 0 r) else numP 0 (c :: r)
def okNat : Lib.NumEnd Int → Option Nat
  | .ok v => if 0 ≤ v then some v.toNat else none
  | _ => none

theorem parse_mono : ∀ (l : List UInt8) (acc u : Nat), Lib.parseUint10 acc l = .ok u → acc ≤ u
  | [], acc, u, h => by
    simp only [Lib.parseUint10] at h
    injection h with h
    omega
  | c :: r, acc, u, h => by
    simp only [Lib.parseUint10] at h
    split at h
    · split at h
      · cases h
      · split at h
        · cases h
        · have := parse_mono r _ u h
          omega
    · cases h

def natP : Lib.NumEnd Nat → Option Nat
  | .ok u => if u < 9223372036854775808 then some u else none
  | _ => none
def natN : Lib.NumEnd Nat → Option Nat
  | .ok u => if u = 0 then some 0 else none
  | _ => none

theorem numP_eq : ∀ (l : List UInt8) (acc : Nat), acc < 9223372036854775808 → numP acc l = natP (Lib.parseUint10 acc l)
  | [], acc, h => by simp [numP, Lib.parseUint10, natP, h]
  | c :: r, acc, h => by
    simp only [numP, Lib.parseUint10]
    by_cases hd : 48 ≤ c.toNat ∧ c.toNat ≤ 57
    · rw [if_pos hd, if_pos hd]
      by_cases h1 : 9223372036854775807 < acc * 10 + (c.toNat - 48)
      · rw [if_pos h1]
        split
        · rfl
        · split
          · rfl
          · cases hq : Lib.parseUint10 (acc * 10 + (c.toNat - 48)) r with
            | ok u =>
              have := parse_mono r _ u hq
              simp only [natP]
              rw [if_neg (by omega)]
            | _ => rfl
      · rw [if_neg h1, if_neg (by omega), if_neg (by omega)]
        exact numP_eq r _ (by omega)
    · rw [if_neg hd, if_neg hd]; rfl

theorem numN_false : ∀ l, numN false l = none
  | [] => rfl
  | c :: r => by
    simp only [numN, Bool.false_and]
    split
    · exact numN_false r
    · rfl

theorem numN_eq : ∀ (l : List UInt8) (acc : Nat), numN (acc == 0) l = natN (Lib.parseUint10 acc l)
  | [], acc => by
    by_cases h : acc = 0 <;> simp [numN, Lib.parseUint10, natN, h]
  | c :: r, acc => by
    simp only [numN, Lib.parseUint10]
    by_cases hd : 48 ≤ c.toNat ∧ c.toNat ≤ 57
    · rw [if_pos hd, if_pos hd]
      have e : ((acc == 0) && c.toNat == 48) = (acc * 10 + (c.toNat - 48) == 0) := by
        rw [Bool.eq_iff_iff, Bool.and_eq_true, beq_iff_eq, beq_iff_eq, beq_iff_eq]
        omega
      rw [e]
      split
      · rename_i h1
        have : (acc * 10 + (c.toNat - 48) == 0) = false := beq_eq_false_iff_ne.2 (by omega)
        rw [this, numN_false]; rfl
      · split
        · rename_i h1
          have : (acc * 10 + (c.toNat - 48) == 0) = false := beq_eq_false_iff_ne.2 (by omega)
          rw [this, numN_false]; rfl
        · exact numN_eq r _
    · rw [if_neg hd, if_neg hd]; rfl

theorem numOf_eq (l : List UInt8) : numOf l = okNat (Lib.atoiAll l) := by
  cases l with
  | nil => rfl
  | cons c r =>
    simp only [numOf, Lib.atoiAll]
    by_cases hn : c.toNat = 45
    · rw [if_pos hn, if_pos (Or.inr hn)]
      simp only [Lib.parseMag]
      by_cases hr : r = []
      · rw [if_pos hr, if_pos hr]; rfl
      · rw [if_neg hr, if_neg hr]
        have := numN_eq r 0
        simp only [beq_self_eq_true] at this
        rw [this]
        cases hq : Lib.parseUint10 0 r with
        | ok u =>
          simp only [natN, hn, not_true_eq_false, false_and, if_false, true_and, if_true]
          by_cases hu : u = 0
          · subst hu; rfl
          · rw [if_neg hu]
            split
            · rfl
            · simp only [okNat]; rw [if_neg (by omega)]
        | _ => rfl
    · rw [if_neg hn]
      by_cases hp : c.toNat = 43
      · rw [if_pos hp, if_pos (Or.inl hp)]
        simp only [Lib.parseMag]
        by_cases hr : r = []
        · rw [if_pos hr, if_pos hr]; rfl
        · rw [if_neg hr, if_neg hr, numP_eq r 0 (by omega)]
          cases hq : Lib.parseUint10 0 r with
          | ok u =>
            simp only [natP, hn, not_false_eq_true, true_and, false_and, if_false]
            by_cases hu : u < 9223372036854775808
            · rw [if_pos hu, if_neg (by omega)]; simp [okNat]
            · rw [if_neg hu, if_pos (by omega)]; rfl
          | _ => rfl
      · rw [if_neg hp, if_neg (by omega), numP_eq (c :: r) 0 (by omega)]
        simp only [Lib.parseMag, if_neg (List.cons_ne_nil c r)]
        cases hq : Lib.parseUint10 0 (c :: r) with
        | ok u =>
          simp only [natP, hn, not_false_eq_true, true_and, false_and, if_false]
          by_cases hu : u < 9223372036854775808
          · rw [if_pos hu, if_neg (by omega)]; simp [okNat]
          · rw [if_neg hu, if_pos (by omega)]; rfl
        | _ => rfl

def numV (o : Option Nat) : Value := match o with
  | some k => .tuple #[.int .i64 k, .bool true]
  | none => .tuple #[.int .i64 0, .bool false]

theorem drop_cons (s : ByteArray) (k : Nat) (h : k < s.size) : s.data.toList.drop k = s[k] :: s.data.toList.drop (k + 1) := by
  rw [List.drop_eq_getElem_cons (by simpa using h)]; rfl

set_option maxRecDepth 100000 in
set_option maxHeartbeats 1600000 in
/-- zzs6497cnum. -/
theorem num_any (s : ByteArray) (w : World) (hs : s.size ≤ maxLen) : Calls Ybaf.prog 7 #[.string s] w fun e w' => e = .returned (numV (numOf s.data.toList)) ∧ w' = w := by
  unfold maxLen at hs
  by_cases h0 : 0 < s.size
  · have e0 : s.data.toList = s[0] :: s.data.toList.drop 1 := by
      have := drop_cons s 0 h0
      simpa using this
    by_cases hneg : (s[0].toNat : Int) = 45
    · have hof : numOf s.data.toList = if s.data.toList.drop 1 = [] then none else numN true (s.data.toList.drop 1) := by
        conv => lhs; rw [e0]
        simp only [numOf]
        rw [if_pos (by omega)]
      by_cases h1 : s.size ≤ 1
      · have hz : numOf s.data.toList = none := by
          rw [hof, if_pos (List.drop_eq_nil_of_le (by simpa using h1))]
        have HZ := hide hz
        clear hz hof e0
        go_enter Ybaf.func7, Ybaf.ntmps7
        go_wp2
        go_ret2
        exact ⟨ret_eq (by rw [HZ.out]; rfl), rfl⟩
      · have hz : numOf s.data.toList = numN true (s.data.toList.drop 1) := by
          rw [hof, if_neg (fun hh => by have := congrArg List.length hh; simp at this; omega)]
        have HZ := hide hz
        clear hz hof e0
        go_enter Ybaf.func7, Ybaf.ntmps7
        go_wp2
        go_loop [6, 7, 8] (fun v az i => ∃ (k : Nat) (z : Bool), 1 ≤ k ∧ k ≤ s.size ∧ v = .int .u64 0 ∧ az = .bool z ∧ i = .int .i64 k ∧ Hid (numN true (s.data.toList.drop 1) = numN z (s.data.toList.drop k))) (fun _ _ i => s.size - (intOf i).toNat)
        case atStart => exact ⟨1, true, by omega, by omega, rfl, rfl, rfl, rfl⟩
        case round =>
          obtain ⟨k, z, hk1, hk, rfl, rfl, rfl, hN⟩ := hrel
          by_cases hlt : k < s.size
          · have hdc := drop_cons s k hlt
            have HD := hide hdc
            clear hdc
            by_cases hlo : (s[k].toNat : Int) < 48
            · have hz : numOf s.data.toList = none := by
                rw [HZ.out, hN.out, HD.out, numN, if_neg (by omega)]
              have HZ2 := hide hz
              clear hz
              go_wp2
              go_ret2
              exact ⟨ret_eq (by rw [HZ2.out]; rfl), rfl⟩
            · by_cases hhi : 57 < (s[k].toNat : Int)
              · have hz : numOf s.data.toList = none := by
                  rw [HZ.out, hN.out, HD.out, numN, if_neg (by omega)]
                have HZ2 := hide hz
                clear hz
                go_wp2
                go_ret2
                exact ⟨ret_eq (by rw [HZ2.out]; rfl), rfl⟩
              · have hz : numN z (s.data.toList.drop k) = numN (z && s[k].toNat == 48) (s.data.toList.drop (k + 1)) := by
                  rw [HD.out, numN, if_pos (by omega)]
                by_cases h48 : (s[k].toNat : Int) = 48
                · have hb : (z && s[k].toNat == 48) = z := by
                    have : s[k].toNat = 48 := by omega
                    rw [this]; simp
                  rw [hb] at hz
                  have HZ2 := hide hz
                  clear hz hb
                  go_wp2
                  go_round
                  case rel => exact ⟨k + 1, z, by omega, by omega, rfl, rfl, by go_num, hN.out.trans HZ2.out⟩
                  case measure => simp [intOf]; omega
                · have hb : (z && s[k].toNat == 48) = false := by
                    have : (s[k].toNat == 48) = false := beq_eq_false_iff_ne.2 (by omega)
                    rw [this]; simp
                  rw [hb] at hz
                  have HZ2 := hide hz
                  clear hz hb
                  go_wp2
                  go_round
                  case rel => exact ⟨k + 1, false, by omega, by omega, rfl, rfl, by go_num, hN.out.trans HZ2.out⟩
                  case measure => simp [intOf]; omega
          · have : k = s.size := by omega
            subst this
            have hz : numOf s.data.toList = if z then some 0 else none := by
              rw [HZ.out, hN.out, List.drop_eq_nil_of_le (by simp), numN]
            have HZ2 := hide hz
            clear hz
            cases z
            all_goals
              go_wp2
              go_ret2
              exact ⟨ret_eq (by rw [HZ2.out]; rfl), rfl⟩
    · obtain ⟨i0, hi0, hof, hplus⟩ : ∃ i0 : Nat, i0 ≤ 1 ∧ numOf s.data.toList = (if s.data.toList.drop i0 = [] then none else numP 0 (s.data.toList.drop i0)) ∧ (((s[0].toNat : Int) = 43 ∧ i0 = 1) ∨ (¬ (s[0].toNat : Int) = 43 ∧ i0 = 0)) := by
        by_cases hp : (s[0].toNat : Int) = 43
        · refine ⟨1, by omega, ?_, .inl ⟨hp, rfl⟩⟩
          conv => lhs; rw [e0]
          simp only [numOf]
          rw [if_neg (by omega), if_pos (by omega)]
        · refine ⟨0, by omega, ?_, .inr ⟨hp, rfl⟩⟩
          rw [List.drop_zero, if_neg (by rw [e0]; simp)]
          conv => lhs; rw [e0]
          conv => rhs; rw [e0]
          simp only [numOf]
          rw [if_neg (by omega), if_neg (by omega)]
      by_cases h1 : s.size ≤ i0
      · have hz : numOf s.data.toList = none := by
          rw [hof, if_pos (List.drop_eq_nil_of_le (by simpa using h1))]
        have HZ := hide hz
        clear hz hof e0
        rcases hplus with ⟨hp, rfl⟩ | ⟨hp, rfl⟩
        · go_enter Ybaf.func7, Ybaf.ntmps7
          go_wp2
          go_ret2
          exact ⟨ret_eq (by rw [HZ.out]; rfl), rfl⟩
        · omega
      · have hz : numOf s.data.toList = numP 0 (s.data.toList.drop i0) := by
          rw [hof, if_neg (fun hh => by have := congrArg List.length hh; simp at this; omega)]
        have HZ := hide hz
        clear hz hof e0
        have hne : ¬ s = ByteArray.empty := fun hh => by rw [hh] at h0; exact absurd h0 (by decide)
        have hq2 : ((s[0].toNat : Int) == 45) = false := beq_eq_false_iff_ne.2 hneg
        rcases hplus with ⟨hp, rfl⟩ | ⟨hp, rfl⟩
        all_goals
          try have hq1 : ((s[0].toNat : Int) == 43) = false := beq_eq_false_iff_ne.2 hp
          go_enter Ybaf.func7, Ybaf.ntmps7
          go_wp2
          go_loop [6, 7, 8] (fun v az i => ∃ (k u : Nat) (z : Bool), k ≤ s.size ∧ u < 9223372036854775808 ∧ v = .int .u64 u ∧ az = .bool z ∧ i = .int .i64 k ∧ Hid (numOf s.data.toList = numP u (s.data.toList.drop k))) (fun _ _ i => s.size - (intOf i).toNat)
          case atStart => first | exact ⟨1, 0, true, by omega, by omega, rfl, rfl, rfl, HZ.out⟩ | exact ⟨0, 0, true, by omega, by omega, rfl, rfl, rfl, HZ.out⟩
          case round =>
            obtain ⟨k, u, z, hk, hu, rfl, rfl, rfl, hN⟩ := hrel
            by_cases hlt : k < s.size
            · have hdc := drop_cons s k hlt
              have HD := hide hdc
              clear hdc
              by_cases hlo : (s[k].toNat : Int) < 48
              · have hz : numOf s.data.toList = none := by
                  rw [hN.out, HD.out, numP, if_neg (by omega)]
                have HZ2 := hide hz
                clear hz
                go_wp2
                go_ret2
                exact ⟨ret_eq (by rw [HZ2.out]; rfl), rfl⟩
              · by_cases hhi : 57 < (s[k].toNat : Int)
                · have hz : numOf s.data.toList = none := by
                    rw [hN.out, HD.out, numP, if_neg (by omega)]
                  have HZ2 := hide hz
                  clear hz
                  go_wp2
                  go_ret2
                  exact ⟨ret_eq (by rw [HZ2.out]; rfl), rfl⟩
                · obtain ⟨d, hd⟩ : ∃ d : Nat, s[k].toNat = 48 + d := ⟨s[k].toNat - 48, by omega⟩
                  have hd9 : d ≤ 9 := by omega
                  have hz : numOf s.data.toList = if 9223372036854775807 < u * 10 + d then none else numP (u * 10 + d) (s.data.toList.drop (k + 1)) := by
                    rw [hN.out, HD.out, numP, if_pos (by omega), show s[k].toNat - 48 = d by omega]
                  have hsk : (s[k].toNat : Int) = 48 + d := by omega
                  by_cases hov : 9223372036854775807 < u * 10 + d
                  · rw [if_pos hov] at hz
                    have HZ2 := hide hz
                    clear hz hd
                    by_cases hd0 : d = 0
                    · subst hd0
                      go_wp2
                      go_ret2
                      exact ⟨ret_eq (by rw [HZ2.out]; rfl), rfl⟩
                    · go_wp2
                      go_ret2
                      exact ⟨ret_eq (by rw [HZ2.out]; rfl), rfl⟩
                  · rw [if_neg hov] at hz
                    have HZ2 := hide hz
                    clear hz hd
                    by_cases hd0 : d = 0
                    · subst hd0
                      go_wp2
                      go_round
                      case rel => exact ⟨k + 1, u * 10 + 0, z, by omega, by omega, by go_num, rfl, by go_num, HZ2.out⟩
                      case measure => simp [intOf]; omega
                    · go_wp2
                      go_round
                      case rel => exact ⟨k + 1, u * 10 + d, false, by omega, by omega, by go_num, rfl, by go_num, HZ2.out⟩
                      case measure => simp [intOf]; omega
            · have : k = s.size := by omega
              subst this
              have hz : numOf s.data.toList = some u := by
                rw [hN.out, List.drop_eq_nil_of_le (by simp), numP]
              have HZ2 := hide hz
              clear hz
              go_wp2
              go_ret2
              exact ⟨ret_eq (by rw [HZ2.out]; rfl), rfl⟩
  · have hz : numOf s.data.toList = none := by
      have : s.data.toList = [] := List.eq_nil_of_length_eq_zero (by simpa using h0)
      rw [this]; rfl
    have he : s = ByteArray.empty := ByteArray.size_eq_zero_iff.1 (by omega)
    clear hz h0
    subst he
    go_enter Ybaf.func7, Ybaf.ntmps7
    go_wp2
    go_ret2
    exact ⟨rfl, rfl⟩
end Go.Proofs.YbulkednkFmt
