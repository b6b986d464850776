import Derived.Test.YbulkedlgEmit2
namespace Go.Proofs.Ybulkedlg
open Go.RowKit
set_option linter.unusedVariables false

theorem xor_max (x : Int) (h0 : 0 ≤ x) (h1 : x ≤ 4294967295) : bits BinOp.xor IntKind.u32 IntKind.u32.max x = 4294967295 - x := by
  have e : BitVec.ofInt 32 IntKind.u32.max = BitVec.allOnes 32 := by decide
  show IntKind.u32.wrap ((BitVec.ofInt 32 IntKind.u32.max ^^^ BitVec.ofInt 32 x).toNat : Int) = _
  rw [e, BitVec.allOnes_xor, BitVec.toNat_not, BitVec.toNat_ofInt, IntKind.wrap_u32']
  omega

theorem mask_ne (a : Nat) (h : a &&& 2155905152 ≠ 0) : a.testBit 7 = true ∨ a.testBit 15 = true ∨ a.testBit 23 = true ∨ a.testBit 31 = true := by
  refine Classical.byContradiction fun hno => h ?_
  simp only [not_or, Bool.not_eq_true] at hno
  apply Nat.eq_of_testBit_eq
  intro i
  rw [Nat.testBit_and, Nat.zero_testBit]
  by_cases hi : i < 32
  · have : ∀ i : Fin 32, Nat.testBit 2155905152 i.val = true → i.val = 7 ∨ i.val = 15 ∨ i.val = 23 ∨ i.val = 31 := by decide
    cases hb : Nat.testBit 2155905152 i
    · simp
    · rcases this ⟨i, hi⟩ hb with e | e | e | e <;> simp at e <;> subst e <;> simp [hno]
  · have : Nat.testBit 2155905152 i = false := Nat.testBit_lt_two_pow (Nat.lt_of_lt_of_le (by decide : 2155905152 < 2 ^ 32) (Nat.pow_le_pow_right (by decide) (by omega)))
    simp [this]

theorem mask_of (a i : Nat) (hi : i = 7 ∨ i = 15 ∨ i = 23 ∨ i = 31) (h : a.testBit i = true) : a &&& 2155905152 ≠ 0 := by
  intro e
  have : (a &&& 2155905152).testBit i = true := by
    rw [Nat.testBit_and, h]
    rcases hi with rfl | rfl | rfl | rfl <;> decide
  rw [e] at this
  simp at this

theorem ff_plain (x0 x1 x2 x3 : Nat) (h0 : x0 < 256) (h1 : x1 < 256) (h2 : x2 < 256) (h3 : x3 < 256) (x z : Nat) (hx : x = x0 + 256 * x1 + 65536 * x2 + 16777216 * x3) (hz : z = (4294967295 - x + 4294967296 - 16843009) % 4294967296) :
    ((z / 2^7 % 2 = 1 ∧ x / 2^7 % 2 = 1) ∨ (z / 2^15 % 2 = 1 ∧ x / 2^15 % 2 = 1) ∨ (z / 2^23 % 2 = 1 ∧ x / 2^23 % 2 = 1) ∨ (z / 2^31 % 2 = 1 ∧ x / 2^31 % 2 = 1)) ↔ (x0 = 255 ∨ x1 = 255 ∨ x2 = 255 ∨ x3 = 255) := by
  omega

theorem ffB_iff (x : Int) (h0 : 0 ≤ x) (h1 : x ≤ 4294967295) : ffB x = true ↔ (x / 16777216 = 255 ∨ x / 65536 % 256 = 255 ∨ x / 256 % 256 = 255 ∨ x % 256 = 255) := by
  obtain ⟨X, rfl⟩ := Int.eq_ofNat_of_zero_le h0
  have hX : X ≤ 4294967295 := by omega
  unfold ffB
  rw [xor_max _ h0 h1]
  have ez : ((4294967295 - (X : Int) - 16843009) % 4294967296) = (((4294967295 - X + 4294967296 - 16843009) % 4294967296 : Nat) : Int) := by omega
  have ey : (4294967295 - (X : Int)) = ((4294967295 - X : Nat) : Int) := by omega
  rw [ez, ey]
  generalize hz : (4294967295 - X + 4294967296 - 16843009) % 4294967296 = z
  have hzlt : z < 4294967296 := by omega
  rw [u32_andNot_nat z (4294967295 - X) hzlt (by omega), show 4294967295 - (4294967295 - X) = X by omega, show (2155905152 : Int) = ((2155905152 : Nat) : Int) from rfl, u32_and_nat _ _ (Nat.lt_of_le_of_lt Nat.and_le_left hzlt) (by decide)]
  have key := ff_plain (X % 256) (X / 256 % 256) (X / 65536 % 256) (X / 16777216) (by omega) (by omega) (by omega) (by omega) X z (by omega) hz.symm
  have hbit : ∀ i, (z &&& X).testBit i = true ↔ (z / 2 ^ i % 2 = 1 ∧ X / 2 ^ i % 2 = 1) := fun i => by
    rw [Nat.testBit_and, Bool.and_eq_true, Nat.testBit_eq_decide_div_mod_eq, Nat.testBit_eq_decide_div_mod_eq]; simp
  have e1 : ((((z &&& X) &&& 2155905152 : Nat) : Int) != 0) = true ↔ ((z &&& X) &&& 2155905152 ≠ 0) := by simp
  rw [e1]
  have e2 : (((X : Int) / 16777216 = 255 ∨ (X : Int) / 65536 % 256 = 255 ∨ (X : Int) / 256 % 256 = 255 ∨ (X : Int) % 256 = 255)) ↔ (X % 256 = 255 ∨ X / 256 % 256 = 255 ∨ X / 65536 % 256 = 255 ∨ X / 16777216 = 255) := by omega
  rw [e2, ← key]
  constructor
  · intro h
    rcases mask_ne _ h with h | h | h | h
    · exact .inl ((hbit _).1 h)
    · exact .inr (.inl ((hbit _).1 h))
    · exact .inr (.inr (.inl ((hbit _).1 h)))
    · exact .inr (.inr (.inr ((hbit _).1 h)))
  · intro h
    rcases h with h | h | h | h
    · exact mask_of _ 7 (by simp) ((hbit _).2 h)
    · exact mask_of _ 15 (by simp) ((hbit _).2 h)
    · exact mask_of _ 23 (by simp) ((hbit _).2 h)
    · exact mask_of _ 31 (by simp) ((hbit _).2 h)

/-- What the law's own loop appends. -/
def outOf (plain : Bool) (x : Int) : List UInt8 := if plain then bytes4 x else (bytes4 x).flatMap stuff

theorem emitted_eq (plain : Bool) (x : Int) (h0 : 0 ≤ x) (h1 : x ≤ 4294967295) : emitted plain x = outOf plain x := by
  unfold emitted outOf
  cases plain
  · cases hf : ffB x
    · have hno : ¬ (x / 16777216 = 255 ∨ x / 65536 % 256 = 255 ∨ x / 256 % 256 = 255 ∨ x % 256 = 255) := by rw [← ffB_iff x h0 h1, hf]; simp
      have hs : ∀ y : Int, 0 ≤ y → y < 256 → y ≠ 255 → stuff (UInt8.ofNat y.toNat) = [UInt8.ofNat y.toNat] := fun y a b c => by
        unfold stuff
        rw [if_neg]
        intro e
        have := byte_back y a b
        rw [e] at this
        exact c (by simpa using this.symm)
      simp only [Bool.not_false, Bool.true_or, if_true, Bool.false_eq_true, if_false, bytes4, List.flatMap_cons, List.flatMap_nil]
      rw [hs _ (by omega) (by omega) (by omega), hs _ (by omega) (by omega) (by omega), hs _ (by omega) (by omega) (by omega), hs _ (by omega) (by omega) (by omega)]
      rfl
    · simp
  · simp
end Go.Proofs.Ybulkedlg
