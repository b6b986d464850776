import Derived.Test.YbulkedlgDoorBits
import Derived.Test.YbulkedlgDoorLen
namespace Go.Proofs.YbulkedlgDoor
open Go.RowKit
set_option linter.unusedVariables false

set_option maxRecDepth 100000 in
set_option maxHeartbeats 1000000 in
theorem bit_any (c j : Nat) (w : World) (hc : c < 18446744073709551616) (hj : j < 64) :
    Calls Ybad.prog 4 #[.int .u64 c, .int .i64 j] w fun e w' => e = .returned (.bool (c.testBit j)) ∧ w' = w := by
  have hd : (0 : Int) ≤ (c : Int) / 2 ^ j := Int.ediv_nonneg (by omega) (by have : (0 : Int) < 2 ^ j := Int.pow_pos (by omega); omega)
  have hd2 : (c : Int) / 2 ^ j ≤ c := Int.ediv_le_self _ (by omega)
  have e1 : (bits BinOp.and IntKind.u64 ((c : Int) / 2 ^ j) 1 == 1) = c.testBit j := by
    rw [and_one_u64 _ hd (by omega), Nat.testBit_eq_decide_div_mod_eq]
    have e : (c : Int) / 2 ^ j % 2 = ((c / 2 ^ j % 2 : Nat) : Int) := by simp
    rw [e]
    rw [Bool.eq_iff_iff]; simp; omega
  have H := hide e1
  clear e1
  go_enter Ybad.func4, Ybad.ntmps4
  go_wp2
  go_ret
  exact ⟨ret_bool H.out, rfl⟩

set_option maxRecDepth 100000 in
set_option maxHeartbeats 1000000 in
theorem lowBits_any (f : Nat) (w : World) (hf : f < 64) :
    Calls Ybad.prog 6 #[.int .i64 f] w fun e w' => e = .returned (.int .u64 ((2 ^ f - 1 : Nat) : Int)) ∧ w' = w := by
  have hp : 2 ^ f < 2 ^ 64 := Nat.pow_lt_pow_right (by omega) hf
  have hp1 : 1 ≤ 2 ^ f := Nat.one_le_two_pow
  go_enter Ybad.func6, Ybad.ntmps6
  go_wp2
  go_ret
  refine ⟨ret_u64 ?_, rfl⟩
  rw [IntKind.wrap_u64, IntKind.wrap_u64]
  have e : ((2 ^ f : Nat) : Int) = (2 : Int) ^ f := by simp
  rw [← e]
  omega

set_option maxRecDepth 100000 in
set_option maxHeartbeats 1000000 in
theorem lz64_any (x : Int) (w : World) (h0 : 0 ≤ x) (h1 : x ≤ 18446744073709551615) :
    Calls Ybad.prog 8 #[.int .u64 x] w fun e w' => e = .returned (.int .i64 (64 - (Lib.bitLen x.toNat : Int))) ∧ w' = w := by
  have l : Lib.bitLen x.toNat ≤ 64 := Lib.bitLen_le x.toNat 64 (by omega) (by omega)
  generalize hb : Lib.bitLen x.toNat = b at *
  have HB := hide hb
  clear hb
  go_enter Ybad.func8, Ybad.ntmps8
  go_wp2_with fail
  refine (len64_any x w h0 h1).mono ?_
  rintro e w' ⟨rfl, rfl⟩
  rw [HB.out]
  go_wp2
  go_ret
  exact ⟨ret_i64 (by first | rfl | omega), rfl⟩

/-- The table in its variable. -/
def TabAt (w : World) : Prop := ∀ j, j < Lib.deBruijn64tab.length → w.cell? ⟨0, j, none⟩ = some (.int .u8 (Lib.deBruijn64tab.getD j 0))

theorem tz64_key (x a : Nat) (hx : x < 18446744073709551616) (hx0 : x ≠ 0) (hlow : x &&& (18446744073709551616 - x) = a) :
    IntKind.u64.wrap (bits BinOp.and IntKind.u64 (x : Int) (IntKind.u64.wrap (-(x : Int))) * 285870213051353865) / 288230376151711744 = ((a * 285870213051353865 % 18446744073709551616 / 288230376151711744 : Nat) : Int) := by
  have e1 : IntKind.u64.wrap (-(x : Int)) = ((18446744073709551616 - x : Nat) : Int) := by rw [IntKind.wrap_u64]; omega
  rw [e1, bits_and_u64_nat x _ hx (by omega), hlow, IntKind.wrap_u64]
  omega

set_option maxRecDepth 100000 in
set_option maxHeartbeats 1000000 in
theorem tz64_core (x k idx : Nat) (w : World) (hx0 : ((x : Int) == 0) = false)
    (key : IntKind.u64.wrap (bits BinOp.and IntKind.u64 (x : Int) (IntKind.u64.wrap (-(x : Int))) * 285870213051353865) / 288230376151711744 = (idx : Int))
    (hi : idx < 64) (hk : k < 64) (hcell : w.cell? ⟨0, idx, none⟩ = some (.int .u8 k)) :
    Calls Ybad.prog 7 #[.int .u64 x] w fun e w' => e = .returned (.int .i64 k) ∧ w' = w := by
  go_enter Ybad.func7, Ybad.ntmps7
  go_wp2_with (simp only [key])
  go_ret
  exact ⟨rfl, rfl⟩

theorem tz64_any (x : Nat) (hx : x < 18446744073709551616) (hx0 : x ≠ 0) (w : World) (hT : TabAt w) :
    Calls Ybad.prog 7 #[.int .u64 x] w fun e w' => e = .returned (.int .i64 (Lib.ctz 64 x)) ∧ w' = w := by
  obtain ⟨hlow, hk⟩ := Lib.lowest_bit 64 x hx0 hx
  obtain ⟨hi, htab⟩ := Lib.deBruijn64_at _ hk
  have hcell := hT _ hi
  rw [htab] at hcell
  exact tz64_core x _ _ w (by simp; omega) (tz64_key x _ hx hx0 hlow) hi hk hcell
end Go.Proofs.YbulkedlgDoor
