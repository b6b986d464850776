import Derived.Test.YbulkedlgDoorRows
import Derived.WalkKit
import Derived.WalkSpells
import Derived.WalkLawsBesides
import Derived.WalkSmall
import Derived.Laws.Bits64b
import Derived.Lib.TrailingZeros
import Derived.Lib.Strings
import Derived.Lib.Slices
import Derived.Lib.Small
import Derived.Lib.Walk
import Derived.Lib.BitFns
namespace Go.Proofs.YbulkedlgDoor
open Go.RowKit
set_option linter.unusedVariables false

theorem hide {p : Prop} (h : p) : Hid p := h
theorem ret_bool {a b : Bool} (h : a = b) : Ending.returned (.bool a) = .returned (.bool b) := by rw [h]
theorem ret_i64 {a b : Int} (h : a = b) : Ending.returned (.int .i64 a) = .returned (.int .i64 b) := by rw [h]
theorem ret_u64 {a b : Int} (h : a = b) : Ending.returned (.int .u64 a) = .returned (.int .u64 b) := by rw [h]
theorem at_op {P : Program} {ops : Array Oper} {rest : List Oper} {op : Oper} {a : Act} {w : World} {Q : Exit → Act → World → Prop} (o : Op) (_ : op.op = o) (k : wpList P ops Q (op :: rest) a w) : wpList P ops Q (op :: rest) a w := k

/-! ### the plain side -/
def IsK (c f k : Nat) : Prop := f ≤ k ∧ k < 64 ∧ c.testBit k = true ∧ ∀ j, f ≤ j → j < k → c.testBit j = false
def NoK (c f : Nat) : Prop := ∀ j, f ≤ j → j < 64 → c.testBit j = false
def IsB (c f b : Nat) : Prop := b < f ∧ (1 ≤ b → c.testBit b = true) ∧ ∀ j, b < j → j < f → c.testBit j = false

theorem scan_up (c : Nat) : ∀ n f, f + n = 64 → NoK c f ∨ ∃ k, IsK c f k
  | 0, f, h => .inl fun j h1 h2 => by omega
  | n + 1, f, h => by
    cases hb : c.testBit f
    · rcases scan_up c n (f + 1) (by omega) with h' | ⟨k, h1, h2, h3, h4⟩
      · exact .inl fun j h1 h2 => by
          by_cases e : j = f
          · subst e; exact hb
          · exact h' j (by omega) h2
      · exact .inr ⟨k, by omega, h2, h3, fun j g1 g2 => by
          by_cases e : j = f
          · subst e; exact hb
          · exact h4 j (by omega) g2⟩
    · exact .inr ⟨f, by omega, by omega, hb, fun j h1 h2 => by omega⟩

theorem scan_down (c : Nat) : ∀ f, 0 < f → ∃ b, IsB c f b
  | 0, h => by omega
  | 1, _ => ⟨0, by omega, by omega, fun j h1 h2 => by omega⟩
  | f + 2, _ => by
    cases hb : c.testBit (f + 1)
    · obtain ⟨b, h1, h2, h3⟩ := scan_down c (f + 1) (by omega)
      exact ⟨b, by omega, h2, fun j g1 g2 => by
        by_cases e : j = f + 1
        · subst e; exact hb
        · exact h3 j g1 (by omega)⟩
    · exact ⟨f + 1, by omega, fun _ => hb, fun j h1 h2 => by omega⟩

theorem bits_andNot_u64_nat (a b : Nat) (ha : a < 18446744073709551616) (hb : b < 18446744073709551616) : bits .andNot .u64 (a : Int) (b : Int) = ((a &&& (18446744073709551615 - b) : Nat) : Int) := by
  have hx : a &&& (18446744073709551615 - b) < 2 ^ 64 := Nat.lt_of_le_of_lt Nat.and_le_left (by omega)
  have h1 : (BitVec.ofInt 64 (a : Int)).toNat = a := by
    rw [BitVec.ofInt_natCast, BitVec.toNat_ofNat]; exact Nat.mod_eq_of_lt (by omega)
  have h2 : (BitVec.ofInt 64 (b : Int)).toNat = b := by
    rw [BitVec.ofInt_natCast, BitVec.toNat_ofNat]; exact Nat.mod_eq_of_lt (by omega)
  show IntKind.u64.wrap ((BitVec.ofInt 64 (a : Int) &&& ~~~ BitVec.ofInt 64 (b : Int)).toNat : Int) = _
  rw [BitVec.toNat_and, BitVec.toNat_not, h1, h2, IntKind.wrap_u64]
  have e : 2 ^ 64 - 1 - b = 18446744073709551615 - b := by omega
  rw [e]
  omega

theorem low_testBit (f j : Nat) : (2 ^ f - 1).testBit j = decide (j < f) := Nat.testBit_two_pow_sub_one f j
theorem notLow_testBit (f j : Nat) (hf : f < 64) (hj : j < 64) : (18446744073709551615 - (2 ^ f - 1)).testBit j = decide (f ≤ j) := by
  have h := Nat.testBit_two_pow_sub_succ (n := 64) (x := 2 ^ f - 1) (by
    have : 2 ^ f < 2 ^ 64 := Nat.pow_lt_pow_right (by omega) hf
    omega) j
  have e : 2 ^ 64 - (2 ^ f - 1 + 1) = 18446744073709551615 - (2 ^ f - 1) := by omega
  rw [e, low_testBit] at h
  rw [h]
  by_cases e2 : f ≤ j
  · simp [hj, e2]
  · have : j < f := by omega
    simp [this, e2]

theorem big_testBit (c j : Nat) (hc : c < 18446744073709551616) (hj : 64 ≤ j) : c.testBit j = false :=
  Nat.testBit_lt_two_pow (Nat.lt_of_lt_of_le hc (show 2 ^ 64 ≤ 2 ^ j from Nat.pow_le_pow_right (by decide) hj))

theorem rest_none (c f : Nat) (hc : c < 18446744073709551616) (hf : f < 64) (h : NoK c f) : c &&& (18446744073709551615 - (2 ^ f - 1)) = 0 := by
  apply Nat.eq_of_testBit_eq
  intro j
  rw [Nat.testBit_and, Nat.zero_testBit]
  by_cases hj : j < 64
  · rw [notLow_testBit f j hf hj]
    by_cases hfj : f ≤ j
    · rw [h j hfj hj]; rfl
    · simp [hfj]
  · rw [big_testBit c j hc (by omega)]; rfl

theorem lowest_unique (x k t m : Nat) (hk : x.testBit k = true) (hb : ∀ j, j < k → x.testBit j = false) (hx : x = 2 ^ t * (2 * m + 1)) : t = k := by
  have ht : x.testBit t = true := by
    rw [hx, Nat.testBit_two_pow_mul]
    simp [Nat.testBit_zero]
  have hl : ∀ j, j < t → x.testBit j = false := fun j hj => by
    rw [hx, Nat.testBit_two_pow_mul]
    simp; omega
  rcases Nat.lt_trichotomy t k with h | h | h
  · rw [hb t h] at ht; cases ht
  · exact h
  · rw [hl k h] at hk; cases hk

theorem rest_some (c f k : Nat) (hc : c < 18446744073709551616) (h : IsK c f k) :
    c &&& (18446744073709551615 - (2 ^ f - 1)) ≠ 0 ∧ c &&& (18446744073709551615 - (2 ^ f - 1)) < 18446744073709551616 ∧ Lib.ctz 64 (c &&& (18446744073709551615 - (2 ^ f - 1))) = k := by
  obtain ⟨h1, h2, h3, h4⟩ := h
  have hf : f < 64 := by omega
  have hbit : ∀ j, j < 64 → (c &&& (18446744073709551615 - (2 ^ f - 1))).testBit j = (c.testBit j && decide (f ≤ j)) := fun j hj => by
    rw [Nat.testBit_and, notLow_testBit f j hf hj]
  have hk : (c &&& (18446744073709551615 - (2 ^ f - 1))).testBit k = true := by rw [hbit k h2, h3]; simp [h1]
  have hne : c &&& (18446744073709551615 - (2 ^ f - 1)) ≠ 0 := by
    intro e; rw [e] at hk; simp at hk
  have hlt : c &&& (18446744073709551615 - (2 ^ f - 1)) < 18446744073709551616 := Nat.lt_of_le_of_lt Nat.and_le_left hc
  refine ⟨hne, hlt, ?_⟩
  unfold Lib.ctz
  rw [if_neg hne]
  obtain ⟨m, hm, _⟩ := Lib.ctzFrom_spec 64 _ (Nat.pos_of_ne_zero hne) hlt
  refine lowest_unique _ k _ m hk (fun j hj => ?_) hm
  rw [hbit j (by omega)]
  by_cases hfj : f ≤ j
  · rw [h4 j hfj hj]; rfl
  · simp [hfj]

theorem bitLen_of (x b : Nat) (hb : b < 64) (h1 : 2 ^ b ≤ x) (h2 : x < 2 ^ (b + 1)) : Lib.bitLen x = b + 1 := by
  have h64 : x < 2 ^ 64 := Nat.lt_of_lt_of_le h2 (Nat.pow_le_pow_right (by omega) (by omega))
  rw [Lib.bitLen_shift b x h1 h64]
  have : x / 2 ^ b = 1 := by
    rw [Nat.pow_succ] at h2
    exact Nat.div_eq_of_lt_le (by omega) (by omega)
  rw [this]
  rfl

theorem lead (c f b : Nat) (hf : f < 64) (h : IsB c f b) : (c &&& (2 ^ f - 1)) ||| 1 < 18446744073709551616 ∧ Lib.bitLen ((c &&& (2 ^ f - 1)) ||| 1) = b + 1 := by
  obtain ⟨h1, h2, h3⟩ := h
  have hbit : ∀ j, ((c &&& (2 ^ f - 1)) ||| 1).testBit j = ((c.testBit j && decide (j < f)) || decide (j = 0)) := fun j => by
    rw [Nat.testBit_or, Nat.testBit_and, low_testBit]
    congr 1
    cases j <;> simp [Nat.testBit_succ]
  have hset : ((c &&& (2 ^ f - 1)) ||| 1).testBit b = true := by
    rw [hbit b]
    by_cases e : b = 0
    · simp [e]
    · rw [h2 (by omega)]; simp [h1]
  have hhi : (c &&& (2 ^ f - 1)) ||| 1 < 2 ^ (b + 1) := by
    apply Nat.lt_pow_two_of_testBit
    intro j hj
    rw [hbit j]
    by_cases e : j < f
    · rw [h3 j (by omega) e]; simp; omega
    · simp [e]; omega
  have hlo : 2 ^ b ≤ (c &&& (2 ^ f - 1)) ||| 1 := Nat.ge_two_pow_of_testBit hset
  exact ⟨Nat.lt_of_lt_of_le hhi (show 2 ^ (b + 1) ≤ 2 ^ 64 from Nat.pow_le_pow_right (by omega) (by omega)), bitLen_of _ b (by omega) hlo hhi⟩
end Go.Proofs.YbulkedlgDoor
