import Derived.Test.YbulkedlgEmit2
namespace Go.Proofs.Ybulkedlg
open Go.RowKit
set_option linter.unusedVariables false

theorem i64_and63 (n : Int) : bits .and .i64 n 63 = n % 64 := by
  have h63 : (BitVec.ofInt 64 63).toNat = 2 ^ 6 - 1 := by decide
  have key : (BitVec.ofInt 64 n &&& BitVec.ofInt 64 63).toNat = (n % ((2 ^ 64 : Nat) : Int)).toNat % 2 ^ 6 := by
    rw [BitVec.toNat_and, BitVec.toNat_ofInt, h63, Nat.and_two_pow_sub_one_eq_mod]
  show IntKind.i64.wrap ((BitVec.ofInt 64 n &&& BitVec.ofInt 64 63).toNat : Nat) = n % 64
  rw [key, IntKind.wrap_i64]
  omega

theorem u8_or64_right (y : Int) (h₀ : 0 ≤ y) (h₁ : y < 64) : bits .or .u8 y 64 = y + 64 := by
  have hc : bits .or .u8 y 64 = bits .or .u8 64 y := by simp only [bits, BitVec.or_comm]
  rw [hc, bits_join .u8 8 (by decide) wraps_u8 6 64 y (by decide) (by decide) (by decide) h₀ h₁ (by omega)]
  omega


theorem bits_u64_bd (op : BinOp) (x y : Int) : 0 ≤ bits op .u64 x y ∧ bits op .u64 x y ≤ 18446744073709551615 := by
  unfold bits
  rw [IntKind.wrap_u64]
  omega

theorem wrap64_bd (x : Int) : -9223372036854775808 ≤ wrap64 x ∧ wrap64 x ≤ 9223372036854775807 := by unfold wrap64; omega

/-- The accumulator behind a write. -/
def accOf (acc k bt : Int) : Int := bits BinOp.or IntKind.u64 (IntKind.u64.wrap (acc * 2 ^ (k % 64).toNat)) bt

set_option maxRecDepth 100000 in
set_option maxHeartbeats 2000000 in
theorem write_any (B T : Nat) (w : World) (v : Value) (l : List UInt8) (acc n bt k : Int) (plain : Bool) (ha0 : 0 ≤ acc) (ha1 : acc ≤ 18446744073709551615) (hb0 : 0 ≤ bt) (hb1 : bt ≤ 4294967295) (h : Bw B T w v l acc n plain) (hl : l.length ≤ 1500000) :
    Calls Yba.prog 5 #[.pointer (some ⟨T, 0, none⟩), .int .u32 bt, .int .i64 k] w fun e w' => e = .returned (.tuple #[]) ∧ Below B w w' ∧
      ((32 ≤ wrap64 (n + k) ∧ ∃ v', Bw B T w' v' (l ++ emitted plain (wordOf (accOf acc k bt) (wrap64 (n + k) - 32))) (accOf acc k bt) (wrap64 (n + k) - 32) plain) ∨ (wrap64 (n + k) < 32 ∧ Bw B T w' v l (accOf acc k bt) (wrap64 (n + k)) plain)) := by
  have hk63 := i64_and63 k
  have hk0 : 0 ≤ k % 64 := by omega
  have hk1 : k % 64 < 64 := by omega
  have P2 := h.put2 (accOf acc k bt)
  have P3 := P2.1.put3 (wrap64 (n + k))
  have H := hide P3.1
  have HB := hide (P2.2.trans P3.2)
  have f2 := h.blk.cell 2
  have f3 := h.blk.cell 3
  have z2 := h.blk.free 2
  have z3 := h.blk.free 3
  simp only [List.getElem?_toArray, List.getElem?_cons_zero, List.getElem?_cons_succ] at f2 f3
  have hT := h.blk.lt
  have hB := h.hB
  clear h P2 P3
  by_cases e : 32 ≤ wrap64 (n + k)
  · have HE := hide (emit_any B T _ v l (accOf acc k bt) (wrap64 (n + k)) plain (bits_u64_bd _ _ _).1 (bits_u64_bd _ _ _).2 e (wrap64_bd _).2 H.out hl)
    go_enter Yba.func5, Yba.ntmps5
    go_wp2_with fail
    refine HE.out.mono ?_
    rintro e1 w2 ⟨rfl, v2, hbw, hbel⟩
    have H2 := hide hbw
    have HB2 := hide (HB.out.trans hbel)
    clear hbw hbel
    go_wp2
    go_end0
    exact ⟨rfl, HB2.out, .inl ⟨e, v2, H2.out⟩⟩
  · have e' : wrap64 (n + k) < 32 := by omega
    go_enter Yba.func5, Yba.ntmps5
    go_wp2_with fail
    go_end0
    exact ⟨rfl, HB.out, .inr H.out⟩
end Go.Proofs.Ybulkedlg
