import Derived.Test.YbulkedlgNeq
import Derived.Lib.SliceRun
namespace Go.Proofs.Ybulkedlg
open Go.RowKit
set_option linter.unusedVariables false

theorem info72 : (Yba.prog.info? 72).map (fun i => (i.zero, i.size, i.bytes)) = some (some (.agg #[.int .i32 0, .int .u8 0, .int .u8 0, .bool false]), 4, 8) := by kernel_rfl
theorem info66 : (Yba.prog.info? 66).map (fun i => (i.zero, i.size, i.bytes)) = some (some (.agg #[.int .i64 0, .int .i64 0, .int .i64 0, .int .i64 0, .int .i64 0, .int .i64 0, .pointer none, .pointer none, .pointer none, .int .i32 0]), 10, 80) := by kernel_rfl
theorem info60 : (Yba.prog.info? 60).map (fun i => (i.zero, i.size, i.bytes)) = some (some (.agg #[.int .i64 0, .int .i64 0, .int .i64 0, .int .i64 0, .int .i64 0, .int .i64 0, .int .u8 0, .int .u8 0, .int .i32 0]), 9, 56) := by kernel_rfl

theorem eqlNil_d (d : Nat) {t e : TypeId} (h : Yba.prog.underlying t = some (.slice e)) (a : Option Addr) (n c : Nat) (w : World) : (Op.equalIn (d + 1) t (.slice a n c) (.slice none 0 0)).run Yba.prog w = .ok a.isNone w := by
  cases a <;> simp [Op.equalIn, run_underlying h]
theorem eqlNil {t e : TypeId} (h : Yba.prog.underlying t = some (.slice e)) (a : Option Addr) (n c : Nat) (w : World) : (binOp .eql t (.slice a n c) (.slice none 0 0)).run Yba.prog w = .ok (.bool a.isNone) w := by
  have h' : (Op.equalIn 10000 t (.slice a n c) (.slice none 0 0)).run Yba.prog w = .ok a.isNone w := eqlNil_d 9999 h a n c w
  simp only [binOp]
  simp [Op.equal, Op.maxDepth, h']

theorem own_empty (W : World) (t sz : Nat) : (W.alloc (.cells #[] t)).ownsRow W.heap.size t sz (.slice (some ⟨W.heap.size, 0, none⟩) 0 0) 0 [] :=
  ⟨by simp, .inr ⟨W.heap.size, 0, #[], rfl, Nat.le_refl _, heap_alloc_new W _, Nat.le_refl _, by simp, by simp, by simp⟩⟩

set_option maxRecDepth 100000 in
set_option maxHeartbeats 1000000 in
theorem clone8 (B : Nat) (W : World) (a : Option Addr) (n cap : Nat) (F : Nat → List Value) (h : Rs B 72 4 W a n F) (hone : ∀ k, k < n → ∀ v ∈ F k, v.oneCell' = true) (hn : n ≤ 1048576) :
    Calls Yba.prog 8 #[.slice a n cap] W fun e W' => ∃ a' cap', e = .returned (.slice a' n cap') ∧ Rs W.heap.size 72 4 W' a' n F ∧ Below W.heap.size W W' := by
  have hq := eqlNil Yba.underlying67 a n cap
  rcases h with ⟨rfl, rfl⟩ | ⟨g, rfl, h⟩
  · go_enter Yba.func8, Yba.ntmps8
    go_wp2_with fail
    go_ret
    exact ⟨none, 0, rfl, .inl ⟨rfl, rfl⟩, Below.refl _ _⟩
  · obtain ⟨i0, hi, hz0, hz1, hz2⟩ := info_parts info72
    have H := hide h
    clear h
    go_enter Yba.func8, Yba.ntmps8
    go_wp2_with (refine at_op (.call { callee := .builtin .append, args := #[.tmp 5, .tmp 6], argTypes := #[67, 67] }) rfl ?_; refine wpList_append_own _ rfl _ _ 67 rfl W.heap.size 72 i0 _ 4 8 Yba.underlying67 hi hz0 hz1 hz2 rfl (by decide) _ _ _ rfl (own_empty W 72 4) ⟨g, 0, none⟩ n cap (flat F n) rfl (flat_len H.out.len) ((H.out.below ((Below.refl _ _).alloc (Nat.le_refl _) _) H.out.lt).news (by decide)) (fun u hu => by obtain ⟨k, hk, hv⟩ := flat_mem hu; exact hone k hk u hv) (by unfold maxLen; omega) (by omega) (by simp) ?_)
    intro v1 w1 hown hgrow _
    obtain ⟨a1, cap1, rfl, hrs⟩ := Rb.of_own H.out.len hown
    have HR := hide hrs
    have HB := hide (((Below.refl W.heap.size W).alloc (Nat.le_refl _) (.cells #[] 72)).grown hgrow (by simp) (by simp [Value.ownBlock]))
    clear hown hgrow hrs
    go_wp2_with fail
    go_ret
    exact ⟨a1, cap1, rfl, HR.out, HB.out⟩
set_option maxRecDepth 100000 in
set_option maxHeartbeats 1000000 in
theorem clone9 (B : Nat) (W : World) (a : Option Addr) (n cap : Nat) (F : Nat → List Value) (h : Rs B 66 10 W a n F) (hone : ∀ k, k < n → ∀ v ∈ F k, v.oneCell' = true) (hn : n ≤ 1048576) :
    Calls Yba.prog 9 #[.slice a n cap] W fun e W' => ∃ a' cap', e = .returned (.slice a' n cap') ∧ Rs W.heap.size 66 10 W' a' n F ∧ Below W.heap.size W W' := by
  have hq := eqlNil Yba.underlying61 a n cap
  rcases h with ⟨rfl, rfl⟩ | ⟨g, rfl, h⟩
  · go_enter Yba.func9, Yba.ntmps9
    go_wp2_with fail
    go_ret
    exact ⟨none, 0, rfl, .inl ⟨rfl, rfl⟩, Below.refl _ _⟩
  · obtain ⟨i0, hi, hz0, hz1, hz2⟩ := info_parts info66
    have H := hide h
    clear h
    go_enter Yba.func9, Yba.ntmps9
    go_wp2_with (refine at_op (.call { callee := .builtin .append, args := #[.tmp 5, .tmp 6], argTypes := #[61, 61] }) rfl ?_; refine wpList_append_own _ rfl _ _ 61 rfl W.heap.size 66 i0 _ 10 80 Yba.underlying61 hi hz0 hz1 hz2 rfl (by decide) _ _ _ rfl (own_empty W 66 10) ⟨g, 0, none⟩ n cap (flat F n) rfl (flat_len H.out.len) ((H.out.below ((Below.refl _ _).alloc (Nat.le_refl _) _) H.out.lt).news (by decide)) (fun u hu => by obtain ⟨k, hk, hv⟩ := flat_mem hu; exact hone k hk u hv) (by unfold maxLen; omega) (by omega) (by simp) ?_)
    intro v1 w1 hown hgrow _
    obtain ⟨a1, cap1, rfl, hrs⟩ := Rb.of_own H.out.len hown
    have HR := hide hrs
    have HB := hide (((Below.refl W.heap.size W).alloc (Nat.le_refl _) (.cells #[] 66)).grown hgrow (by simp) (by simp [Value.ownBlock]))
    clear hown hgrow hrs
    go_wp2_with fail
    go_ret
    exact ⟨a1, cap1, rfl, HR.out, HB.out⟩
set_option maxRecDepth 100000 in
set_option maxHeartbeats 1000000 in
theorem clone10 (B : Nat) (W : World) (a : Option Addr) (n cap : Nat) (F : Nat → List Value) (h : Rs B 60 9 W a n F) (hone : ∀ k, k < n → ∀ v ∈ F k, v.oneCell' = true) (hn : n ≤ 1048576) :
    Calls Yba.prog 10 #[.slice a n cap] W fun e W' => ∃ a' cap', e = .returned (.slice a' n cap') ∧ Rs W.heap.size 60 9 W' a' n F ∧ Below W.heap.size W W' := by
  have hq := eqlNil Yba.underlying38 a n cap
  rcases h with ⟨rfl, rfl⟩ | ⟨g, rfl, h⟩
  · go_enter Yba.func10, Yba.ntmps10
    go_wp2_with fail
    go_ret
    exact ⟨none, 0, rfl, .inl ⟨rfl, rfl⟩, Below.refl _ _⟩
  · obtain ⟨i0, hi, hz0, hz1, hz2⟩ := info_parts info60
    have H := hide h
    clear h
    go_enter Yba.func10, Yba.ntmps10
    go_wp2_with (refine at_op (.call { callee := .builtin .append, args := #[.tmp 5, .tmp 6], argTypes := #[38, 38] }) rfl ?_; refine wpList_append_own _ rfl _ _ 38 rfl W.heap.size 60 i0 _ 9 56 Yba.underlying38 hi hz0 hz1 hz2 rfl (by decide) _ _ _ rfl (own_empty W 60 9) ⟨g, 0, none⟩ n cap (flat F n) rfl (flat_len H.out.len) ((H.out.below ((Below.refl _ _).alloc (Nat.le_refl _) _) H.out.lt).news (by decide)) (fun u hu => by obtain ⟨k, hk, hv⟩ := flat_mem hu; exact hone k hk u hv) (by unfold maxLen; omega) (by omega) (by simp) ?_)
    intro v1 w1 hown hgrow _
    obtain ⟨a1, cap1, rfl, hrs⟩ := Rb.of_own H.out.len hown
    have HR := hide hrs
    have HB := hide (((Below.refl W.heap.size W).alloc (Nat.le_refl _) (.cells #[] 60)).grown hgrow (by simp) (by simp [Value.ownBlock]))
    clear hown hgrow hrs
    go_wp2_with fail
    go_ret
    exact ⟨a1, cap1, rfl, HR.out, HB.out⟩
end Go.Proofs.Ybulkedlg
