import Derived.Test.YbulkedlgRec
import Derived.BigRegion
namespace Go.Proofs.Ybulkedlg
open Go.RowKit
set_option linter.unusedVariables false

/-- The plain data of one rowBlock. -/
structure RwD where
  c : Int
  p : Int
  r : Int
  f : Bool
def rowOf (d : RwD) : List Value := cRow d.c d.p d.r d.f

/-- What the law is told of a slice of such. -/
def ArgR (w : World) (a : Option Addr) (n : Nat) (D : Nat → RwD) : Prop :=
  (a = none → n = 0) ∧ (0 < n → ∃ b off, a = some ⟨b, off, none⟩ ∧ b < w.heap.size ∧ ∀ k, k < n → w.rangeAt b (off + k * 4) (rowOf (D k)))

theorem Rb.four {B t : Nat} {W : World} {g n : Nat} {F : Nat → List Value} (h : Rb B t 4 W g n F) {k : Nat} (hk : k < n) :
    ∃ v0 v1 v2 v3, W.cell? ⟨g, k * 4, none⟩ = some v0 ∧ W.cell? ⟨g, k * 4 + 1, none⟩ = some v1 ∧ W.cell? ⟨g, k * 4 + 2, none⟩ = some v2 ∧ W.cell? ⟨g, k * 4 + 3, none⟩ = some v3 ∧ ∀ j, W.frozen? ⟨g, j, none⟩ = false := by
  have ht := h.there hk
  obtain ⟨v0, h0⟩ := Option.isSome_iff_exists.1 (ht 0 (by omega)).1
  obtain ⟨v1, h1⟩ := Option.isSome_iff_exists.1 (ht 1 (by omega)).1
  obtain ⟨v2, h2⟩ := Option.isSome_iff_exists.1 (ht 2 (by omega)).1
  obtain ⟨v3, h3⟩ := Option.isSome_iff_exists.1 (ht 3 (by omega)).1
  obtain ⟨cur, hg, _⟩ := h.row
  exact ⟨v0, v1, v2, v3, h0, h1, h2, h3, fun j => frozen_of_row W _ _ _ _ hg⟩

set_option maxRecDepth 100000 in
set_option maxHeartbeats 2000000 in
theorem conv_any (W : World) (a : Option Addr) (n cap : Nat) (D : Nat → RwD) (hA : ArgR W a n D) (hn : n ≤ 1048576) :
    Calls Yba.prog 7 #[.slice a n cap] W fun e W' => ∃ a' cap', e = .returned (.slice a' n cap') ∧ Rs W.heap.size 72 4 W' a' n (fun k => rowOf (D k)) ∧ Below W.heap.size W W' := by
  have hq := eqlNil Yba.underlying36 a n cap
  obtain ⟨hA0, hA⟩ := hA
  cases a with
  | none =>
    have := hA0 rfl
    subst this
    clear hA hA0
    go_enter Yba.func7, Yba.ntmps7
    go_wp2_with fail
    go_ret
    exact ⟨none, 0, rfl, .inl ⟨rfl, rfl⟩, Below.refl _ _⟩
  | some x =>
    obtain ⟨i0, hi, hz0, hz1, hz2⟩ := info_parts info72
    have HA := hide hA
    clear hA hA0
    go_enter Yba.func7, Yba.ntmps7
    go_wp2_with (at_make; refine wpList_make_full _ rfl _ _ _ rfl W.heap.size 72 i0 _ 4 Yba.underlying67 hi hz0 hz1 _ _ _ _ n rfl rfl (by rfl) (by rfl) (by rw [hz2]; omega) (by unfold maxLen; omega) (Nat.le_refl _) ?_)
    intro w1 hown hgrow
    have hrb : Rb W.heap.size 72 4 w1 W.heap.size n _ := Rb.made rfl (by omega) hown
    have hb1 : Below W.heap.size W w1 := (Below.refl _ _).grown hgrow (Nat.le_refl _) (by simp)
    have HR := hide hrb
    have HB := hide hb1
    clear hown hgrow hrb hb1
    go_wp2_with fail
    go_loopw [12] (fun i W' => ∃ k : Nat, k ≤ n ∧ i = .int .i64 k ∧ ∃ F, Rb W.heap.size 72 4 W' W.heap.size n F ∧ (∀ j, j < k → F j = rowOf (D j)) ∧ Below W.heap.size W W') (fun i _ => n - (intOf i).toNat)
    case atStart => exact ⟨0, by omega, rfl, _, HR.out, by intro j hj; omega, HB.out⟩
    case round =>
      clear HR HB
      obtain ⟨k, hk, rfl, F, hrb, hall, hbel⟩ := hrel
      by_cases hlt : k < n
      · obtain ⟨b, off, hx, hbw, hr⟩ := HA.out (by omega)
        simp only [Option.some.injEq] at hx
        subst hx
        have hrk := hr k hlt
        have hr' : wr.rangeAt b (off + k * 4) (rowOf (D k)) := fun j v hj => (hbel.cell (p := ⟨b, off + k * 4 + j, none⟩) hbw).trans (hrk j v hj)
        generalize hd : D k = d at hr'
        have f0 : wr.cell? ⟨b, off + k * 4, none⟩ = some (.int .i32 d.c) := hr' 0 _ rfl
        have f1 : wr.cell? ⟨b, off + k * 4 + 1, none⟩ = some (.int .u8 d.p) := hr' 1 _ rfl
        have f2 : wr.cell? ⟨b, off + k * 4 + 2, none⟩ = some (.int .u8 d.r) := hr' 2 _ rfl
        have f3 : wr.cell? ⟨b, off + k * 4 + 3, none⟩ = some (.bool d.f) := hr' 3 _ rfl
        obtain ⟨v0, v1, v2, v3, g0, g1, g2, g3, gf⟩ := hrb.four hlt
        have HRB := hide (hrb.put hlt (rowOf d) rfl)
        have HB2 := hide (setCells_below W.heap.size (Nat.le_refl _) (rowOf d) (k * 4) wr hbel)
        have HALL := hide hall
        have HD := hide hd
        clear hr hrk hr' hrb hbel hall hd HA
        generalize W.heap.size = G at *
        go_wp2_with fail
        go_region
        go_wp2_with fail
        go_roundw
        case rel =>
          refine ⟨k + 1, by omega, by go_num, _, HRB.out.of_block rfl, fun j hj => ?_, HB2.out.drew⟩
          by_cases e : j = k
          · subst e
            simp [HD.out]
          · simp only [e, if_false]
            exact HALL.out j (by omega)
        case measure => simp [intOf]; omega
      · have HRB := hide hrb
        have HB2 := hide hbel
        have HALL := hide hall
        clear hrb hbel hall
        go_wp2_with fail
        go_ret
        exact ⟨_, _, rfl, .inr ⟨_, rfl, HRB.out.congr (fun j hj => HALL.out j (by omega))⟩, HB2.out⟩
end Go.Proofs.Ybulkedlg
