import Derived.Test.YbulkedomNm
import Derived.Lib.SliceRun
import Derived.BigQuiet
import Derived.BigRegion
import Derived.Laws.AppendOwn
namespace Go.Proofs.Ybulkedom
open Go.RowKit
set_option linter.unusedVariables false

theorem info36 : (Yba.prog.info? 36).map (fun i => (i.zero, i.size, i.bytes)) = some (some (.agg #[.string ⟨#[]⟩, .string ⟨#[]⟩]), 2, 32) := by kernel_rfl
theorem eqlNil_d (d : Nat) {t e : TypeId} (h : Yba.prog.underlying t = some (.slice e)) (a : Option Addr) (n c : Nat) (w : World) : (Op.equalIn (d + 1) t (.slice a n c) (.slice none 0 0)).run Yba.prog w = .ok a.isNone w := by
  cases a <;> simp [Op.equalIn, run_underlying h]
theorem eqlNil {t e : TypeId} (h : Yba.prog.underlying t = some (.slice e)) (a : Option Addr) (n c : Nat) (w : World) : (binOp .eql t (.slice a n c) (.slice none 0 0)).run Yba.prog w = .ok (.bool a.isNone) w := by
  have h' : (Op.equalIn 10000 t (.slice a n c) (.slice none 0 0)).run Yba.prog w = .ok a.isNone w := eqlNil_d 9999 h a n c w
  simp only [binOp]
  simp [Op.equal, Op.maxDepth, h']
theorem own_empty (W : World) (t sz : Nat) : (W.alloc (.cells #[] t)).ownsRow W.heap.size t sz (.slice (some ⟨W.heap.size, 0, none⟩) 0 0) 0 [] :=
  ⟨by simp, .inr ⟨W.heap.size, 0, #[], rfl, Nat.le_refl _, heap_alloc_new W _, Nat.le_refl _, by simp, by simp, by simp⟩⟩
theorem below_drewN' {B : Nat} {a w : World} (h : Below B a w) : ∀ n, Below B a (w.drewN n) := fun n => ⟨h.os, h.tape, h.output, h.size, h.block⟩
/-- The cells of a module. -/
def moC (f : ByteArray) (L : Nat → ByteArray) (j : Nat) : List Value := [.string f, .string (L j)]

set_option maxRecDepth 100000 in
set_option maxHeartbeats 1000000 in
theorem clone_any (B : Nat) (W : World) (g n cap : Nat) (f : ByteArray) (L : Nat → ByteArray) (h : Rb B 36 2 W g n (moC f L)) (hn : n ≤ 1048576) :
    Calls Yba.prog 5 #[.slice (some ⟨g, 0, none⟩) n cap] W fun e W' => ∃ a' cap', e = .returned (.slice a' n cap') ∧ Rs W.heap.size 36 2 W' a' n (moC f L) ∧ Below W.heap.size W W' := by
  have hq : ∀ w, (binOp .eql 34 (.slice (some ⟨g, 0, none⟩) n cap) (.slice none 0 0)).run Yba.prog w = .ok (.bool false) w := eqlNil Yba.underlying34 (some ⟨g, 0, none⟩) n cap
  obtain ⟨i0, hi, hz0, hz1, hz2⟩ := info_parts info36
  have H := hide h
  clear h
  go_enter Yba.func5, Yba.ntmps5
  go_wp2_with (at_builtin; refine wpList_append_own _ rfl _ _ 34 rfl W.heap.size 36 i0 _ 2 32 Yba.underlying34 hi hz0 hz1 hz2 rfl (by decide) _ _ _ rfl (own_empty W 36 2) ⟨g, 0, none⟩ n cap (flat (moC f L) n) rfl (flat_len H.out.len) ((H.out.below ((Below.refl _ _).alloc (Nat.le_refl _) _) H.out.lt).news (by decide)) (fun u hu => by obtain ⟨k, hk, hv⟩ := flat_mem hu; simp only [moC, List.mem_cons, List.not_mem_nil, or_false] at hv; rcases hv with rfl | rfl <;> rfl) (by unfold maxLen; omega) (by omega) (by simp) ?_)
  intro v1 w1 hown hgrow _
  obtain ⟨a1, cap1, rfl, hrs⟩ := Rb.of_own H.out.len hown
  have HR := hide hrs
  have HB := hide (((Below.refl W.heap.size W).alloc (Nat.le_refl _) (.cells #[] 36)).grown hgrow (by simp) (by simp [Value.ownBlock]))
  clear hown hgrow hrs
  go_wp2_with fail
  go_ret
  exact ⟨a1, cap1, rfl, HR.out, HB.out⟩

set_option maxRecDepth 100000 in
set_option maxHeartbeats 1000000 in
theorem equal_any (B1 B2 : Nat) (W : World) (a1 a2 : Option Addr) (n c1 c2 : Nat) (f : ByteArray) (L : Nat → ByteArray) (h1 : Rs B1 36 2 W a1 n (moC f L)) (h2 : Rs B2 36 2 W a2 n (moC f L)) (hn : n ≤ 1048576) :
    Calls Yba.prog 9 #[.slice a1 n c1, .slice a2 n c2] W fun e W' => e = .returned (.bool true) ∧ Below W.heap.size W W' := by
  have HR1 := hide h1
  have HR2 := hide h2
  clear h1 h2
  go_enter Yba.func9, Yba.ntmps9
  go_wp2_with fail
  go_loopw [13] (fun i W' => ∃ k : Nat, k ≤ n ∧ i = .int .i64 k ∧ Hid (Below W.heap.size W W')) (fun i _ => n - (intOf i).toNat)
  case atStart => exact ⟨0, by omega, rfl, Below.refl _ _⟩
  case round =>
    obtain ⟨k, hk, rfl, HB⟩ := hrel
    by_cases hlt : k < n
    · rcases HR1.out with ⟨_, h0⟩ | ⟨g, rfl, hr1⟩
      · omega
      rcases HR2.out with ⟨_, h0⟩ | ⟨g', rfl, hr2⟩
      · omega
      have hr1' := hr1.below HB.out hr1.lt
      have hr2' := hr2.below HB.out hr2.lt
      have d0 := hr1'.cell (c := 0) hlt rfl
      have d1 := hr1'.cell (c := 1) hlt rfl
      have e0 := hr2'.cell (c := 0) hlt rfl
      have e1 := hr2'.cell (c := 1) hlt rfl
      simp only [Nat.add_zero] at d0 e0
      have bk : (k : Int) < (n : Int) := by omega
      clear hr1 hr2 hr1' hr2' HR1 HR2
      generalize L k = l at *
      go_wp2_with fail
      go_region
      go_wp2_with fail
      go_roundw
      case rel => exact ⟨k + 1, by omega, by go_num, HB.out.drew⟩
      case measure => simp [intOf]; omega
    · go_wp2_with fail
      go_ret
      exact ⟨rfl, HB.out⟩
end Go.Proofs.Ybulkedom
