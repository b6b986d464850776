import Derived.Test.YbulkedlgBw
import Derived.BigQuiet
import Derived.Deep.RegionHeld3
import Derived.Deep.DrawnRows
namespace Go.Proofs.Ybulkedlg
open Go.RowKit
set_option linter.unusedVariables false

/-- The four bytes of a word, the greatest first. -/
def bytes4 (x : Int) : List UInt8 := [UInt8.ofNat (x / 16777216).toNat, UInt8.ofNat (x / 65536 % 256).toNat, UInt8.ofNat (x / 256 % 256).toNat, UInt8.ofNat (x % 256).toNat]

theorem byte_back (y : Int) (h0 : 0 ≤ y) (h1 : y < 256) : ((UInt8.ofNat y.toNat).toNat : Int) = y := by
  simp; omega

theorem bs_bytes4 (x : Int) (h0 : 0 ≤ x) (h1 : x ≤ 4294967295) : bs (bytes4 x) = [.int .u8 (x / 16777216), .int .u8 (x / 65536 % 256), .int .u8 (x / 256 % 256), .int .u8 (x % 256)] := by
  simp only [bs, bytes4, List.map_cons, List.map_nil]
  rw [byte_back _ (by omega) (by omega), byte_back _ (by omega) (by omega), byte_back _ (by omega) (by omega), byte_back _ (by omega) (by omega)]

theorem Bw.grown2 {B T : Nat} {w w1 : World} {o o' : Obj} {v : Value} {l : List UInt8} {acc n : Int} {plain : Bool} (h : Bw B T w v l acc n plain) (hg : ((w.alloc o).alloc o').grownBy w1 v.ownBlock) : BwB T w1 v acc n plain ∧ Below B w w1 := by
  have hlt := h.blk.lt
  refine ⟨?_, ?_⟩
  · unfold BwB
    rw [hg.block T (by simp; omega) h.ne, Below.heap_alloc _ _ _ (by simp; omega), Below.heap_alloc _ _ _ hlt]
    exact h.blk
  · exact (((Below.refl B w).alloc (by have := h.hB; omega) o).alloc (by have := h.hB; simp; omega) o').grown hg (by have := h.hB; simp; omega) (fun k hk => (h.own.lt k hk).1)

theorem cells4_new (w : World) (a b c d : Value) (g : Nat) (hg : g = w.heap.size) : ∀ j u, [a, b, c, d][j]? = some u → (w.alloc (.cells #[a, b, c, d] 5)).cell? ((⟨g, 0, none⟩ : Addr).add j) = some u := by
  intro j u hj
  subst hg
  have e : (⟨w.heap.size, 0, none⟩ : Addr).add j = ⟨w.heap.size, j, none⟩ := by unfold Addr.add; split <;> simp_all
  rw [e, cell_of_row _ _ _ _ _ _ (heap_alloc_new w _)]
  simpa using hj

set_option maxRecDepth 100000 in
set_option maxHeartbeats 1000000 in
theorem AppendUint32_any (B T : Nat) (w : World) (v : Value) (l : List UInt8) (acc n : Int) (plain : Bool) (x : Int) (h0 : 0 ≤ x) (h1 : x ≤ 4294967295) (h : Bw B T w v l acc n plain) (hl : l.length ≤ 2000000) :
    Calls Yba.prog 17 #[.agg #[], v, .int .u32 x] w fun e w' => ∃ g cap, e = .returned (.slice (some ⟨g, 0, none⟩) (l.length + 4) cap) ∧ BwB T w' v acc n plain ∧ Below B w w' ∧ w'.ownsRow B 5 1 (.slice (some ⟨g, 0, none⟩) (l.length + 4) cap) (l.length + 4) (bs (l ++ bytes4 x)) := by
  obtain ⟨i0, hi, hz0, hz1, hz2⟩ := info_parts Yba.info5
  have H := hide h
  have hT := h.blk.lt
  have hB := h.hB
  have hb4 := hide (bs_bytes4 x h0 h1)
  clear h
  go_enter Yba.func17, Yba.ntmps17
  go_wp2_with (refine at_op (.call { callee := .builtin .append, args := #[.tmp 7, .tmp 19], argTypes := #[23, 23] }) rfl ?_; go_must (refine wpList_append_own _ rfl _ _ 23 rfl B 5 i0 (.int .u8 0) 1 1 Yba.underlying23 hi hz0 hz1 hz2 rfl (by decide) _ _ _ rfl ((H.out.own.alloc _).alloc _) ⟨w.heap.size + 1, 0, none⟩ 4 4 [.int .u8 (x / 16777216), .int .u8 (x / 65536 % 256), .int .u8 (x / 256 % 256), .int .u8 (x % 256)] rfl rfl (cells4_new _ _ _ _ _ _ (by simp)) (by simp; exact ⟨rfl, rfl, rfl, rfl⟩) (by unfold maxLen; omega) (by omega) (by simp; omega) ?_))
  intro v1 w1 hown hgrow _
  obtain ⟨g1, cap1, rfl⟩ := own_shape hown (by omega)
  have HG := hide (H.out.grown2 hgrow)
  have HO := hide hown
  clear hown hgrow
  go_wp2
  go_ret
  exact ⟨g1, cap1, rfl, HG.out.1, HG.out.2, by rw [bs_append, hb4.out]; exact HO.out⟩

/-- holdsFF, as the walk spells it. -/
def ffB (x : Int) : Bool :=
  bits BinOp.and IntKind.u32 (bits BinOp.andNot IntKind.u32 ((bits BinOp.xor IntKind.u32 IntKind.u32.max x - 16843009) % 4294967296) (bits BinOp.xor IntKind.u32 IntKind.u32.max x)) 2155905152 != 0

set_option maxHeartbeats 400000 in
theorem holdsFF_any (x : Int) (w : World) (h0 : 0 ≤ x) (h1 : x ≤ 4294967295) :
    Calls Yba.prog 16 #[.int .u32 x] w fun e w' => e = .returned (.bool (ffB x)) ∧ w' = w := by
  go_enter Yba.func16, Yba.ntmps16
  go_wp2
  go_ret
  exact ⟨rfl, rfl⟩
end Go.Proofs.Ybulkedlg
