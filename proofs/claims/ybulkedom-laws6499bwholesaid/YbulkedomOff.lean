import Derived.Test.YbulkedomMap
import Derived.Laws.ResultCell
import Derived.BigRegion
namespace Go.Proofs.Ybulkedom
open Go.RowKit Go.Maps
set_option linter.unusedVariables false

/-- The first of the enable_only relations. -/
def OnlyAt (W : World) (oa : Option Addr) (k : Nat) : Prop := k = 0 ∨ ∃ ob v f l, oa = some ⟨ob, 0, none⟩ ∧ W.cell? ⟨ob, 0, none⟩ = some (.string v) ∧ W.cell? ⟨ob, 1, none⟩ = some (.string f) ∧ W.cell? ⟨ob, 2, none⟩ = some (.int .i64 l)
theorem OnlyAt.below {W W' : World} {oa : Option Addr} {k : Nat} (h : OnlyAt W oa k) (hb : Below W.heap.size W W') : OnlyAt W' oa k := by
  rcases h with h | ⟨ob, v, f, l, h0, h1, h2, h3⟩
  · exact .inl h
  · have hlt := World.block_lt_of_cell? _ _ h1
    exact .inr ⟨ob, v, f, l, h0, by rw [hb.cell (p := ⟨ob, 0, none⟩) hlt]; exact h1, by rw [hb.cell (p := ⟨ob, 1, none⟩) hlt]; exact h2, by rw [hb.cell (p := ⟨ob, 2, none⟩) hlt]; exact h3⟩
/-- The cells of the switches. -/
def swC (i : ByteArray) (db : Nat) (oa : Option Addr) (k oc fb : Nat) : Array Value := #[.string i, .map (some db), .slice oa k oc, .map (some fb)]
def offB (dis : ByteArray → Bool) (fst : ByteArray → Option Int) (k : Nat) (s : ByteArray) : Bool := dis s || (decide (0 < k) && !(fst s).isSome)

set_option maxRecDepth 100000 in
theorem place_any (i : ByteArray) (db : Nat) (oa : Option Addr) (k oc fb m : Nat) (fst : ByteArray → Option Int) (s : ByteArray) (w : World) (hs : s.size ≤ maxLen) (hF : MF w fb m fst) :
    Calls Yba.prog 11 #[.agg (swC i db oa k oc fb), .string s] w fun e w' => e = .returned (.int .i64 ((fst s).getD 0)) ∧ w' = w.alloc (.cells (swC i db oa k oc fb) 28) := by
  have hl := (hF.below ((Below.refl w.heap.size w).alloc (Nat.le_refl _) (.cells (swC i db oa k oc fb) 28))).look1 s hs
  unfold swC at hl ⊢
  clear hF
  go_enter Yba.func11, Yba.ntmps11
  go_wp2
  go_ret
  exact ⟨rfl, rfl⟩

set_option maxRecDepth 100000 in
set_option maxHeartbeats 1600000 in
theorem off_any (i : ByteArray) (db : Nat) (oa : Option Addr) (k oc fb m m' : Nat) (dis : ByteArray → Bool) (fst : ByteArray → Option Int) (s : ByteArray) (w : World) (hs : s.size ≤ maxLen) (hk : k ≤ 4) (hD : MD w db m' dis) (hF : MF w fb m fst) (hO : OnlyAt w oa k) :
    Calls Yba.prog 10 #[.agg (swC i db oa k oc fb), .string s] w fun e w' => (∃ (s0 s1 s2 s3 s4 : ByteArray) (l0 : Int), e = .returned (.tuple #[.agg #[.string s0, .string s1, .string s2, .string s3, .string s4, .int .i64 l0], .bool (offB dis fst k s)])) ∧ Below w.heap.size w w' := by
  have hb3 : ∀ o1 o2 o3, Below w.heap.size w (((w.alloc o1).alloc o2).alloc o3) := fun o1 o2 o3 => (((Below.refl w.heap.size w).alloc (Nat.le_refl _) o1).alloc (by simp) o2).alloc (by simp; omega) o3
  have hb4 : ∀ o1 o2 o3 o4, Below w.heap.size w ((((w.alloc o1).alloc o2).alloc o3).alloc o4) := fun o1 o2 o3 o4 => (hb3 o1 o2 o3).alloc (by simp; omega) o4
  have hld := (hD.below (hb3 (.cells (swC i db oa k oc fb) 28) (.cells #[.string ⟨#[]⟩, .string ⟨#[]⟩, .string ⟨#[]⟩, .string ⟨#[]⟩, .string ⟨#[]⟩, .int .i64 0] 51) (.cells #[.string i, .string s, .string ⟨#[]⟩, .string ⟨#[]⟩, .string ⟨#[]⟩, .int .i64 0] 51))).look s hs
  obtain ⟨v, f, l, hld⟩ := hld
  have hlf := (hF.below (hb4 (.cells (swC i db oa k oc fb) 28) (.cells #[.string ⟨#[]⟩, .string ⟨#[]⟩, .string ⟨#[]⟩, .string ⟨#[]⟩, .string ⟨#[]⟩, .int .i64 0] 51) (.cells #[.string i, .string s, .string ⟨#[]⟩, .string ⟨#[]⟩, .string ⟨#[]⟩, .int .i64 0] 51) (.cells (rl v f l) 31))).look s hs
  unfold swC rl at hld hlf
  unfold swC
  have HB4 := hide hb4
  obtain ⟨ob, hob⟩ : ∃ ob, offB dis fst k s = ob := ⟨_, rfl⟩
  have HOB := hide hob
  rw [hob]
  obtain ⟨bd, hbd⟩ : ∃ bd, dis s = bd := ⟨_, rfl⟩
  obtain ⟨bf, hbf⟩ : ∃ bf, (fst s).isSome = bf := ⟨_, rfl⟩
  rw [hbd] at hld
  rw [hbf] at hlf
  have HBD := hide hbd
  have HBF := hide hbf
  clear hD hF hb3 hb4 hob hbd hbf
  cases bd with
  | true =>
    have : ob = true := by rw [← HOB.out]; unfold offB; rw [HBD.out]; rfl
    subst this
    clear hO hlf
    go_enter Yba.func10, Yba.ntmps10
    go_wp2
    go_region
    go_wp2
    (try simp only [Exit.inBlock, Exit.then])
    refine bodyPost_ret (v := .tuple #[.agg #[.string i, .string s, .string ⟨#[100, 105, 115, 97, 98, 108, 101]⟩, .string v, .string f, .int .i64 l], .bool true]) ?_ rfl ⟨⟨_, _, _, _, _, _, rfl⟩, ?_⟩
    · rw [results_cell_tmp rfl]
      go_simp
    · (repeat' (first | exact Below.refl _ _ | refine Below.drew ?_ | refine Below.alloc ?_ (by simp <;> omega) _))
  | false =>
    by_cases hk0 : k = 0
    · have : ob = false := by rw [← HOB.out]; unfold offB; rw [HBD.out, hk0]; rfl
      subst this
      subst hk0
      clear hO
      go_enter Yba.func10, Yba.ntmps10
      go_wp2
      (try simp only [Exit.inBlock, Exit.then])
      refine bodyPost_ret (v := .tuple #[.agg #[.string ⟨#[]⟩, .string ⟨#[]⟩, .string ⟨#[]⟩, .string ⟨#[]⟩, .string ⟨#[]⟩, .int .i64 0], .bool false]) ?_ rfl ⟨⟨_, _, _, _, _, _, rfl⟩, ?_⟩
      · rw [results_cell_tmp rfl]
        go_simp
      · (repeat' (first | exact Below.refl _ _ | refine Below.drew ?_ | refine Below.alloc ?_ (by simp <;> omega) _))
    · cases bf with
      | true =>
        have : ob = false := by rw [← HOB.out]; unfold offB; rw [HBD.out, HBF.out]; simp
        subst this
        have hk0i : ¬ (k : Int) = 0 := by omega
        clear hO
        go_enter Yba.func10, Yba.ntmps10
        go_wp2
        (try simp only [Exit.inBlock, Exit.then])
        refine bodyPost_ret (v := .tuple #[.agg #[.string ⟨#[]⟩, .string ⟨#[]⟩, .string ⟨#[]⟩, .string ⟨#[]⟩, .string ⟨#[]⟩, .int .i64 0], .bool false]) ?_ rfl ⟨⟨_, _, _, _, _, _, rfl⟩, ?_⟩
        · rw [results_cell_tmp rfl]
          go_simp
        · (repeat' (first | exact Below.refl _ _ | refine Below.drew ?_ | refine Below.alloc ?_ (by simp <;> omega) _))
      | false =>
        have : ob = true := by rw [← HOB.out]; unfold offB; rw [HBD.out, HBF.out, decide_eq_true (by omega)]; rfl
        subst this
        have hk0i : ¬ (k : Int) = 0 := by omega
        obtain ⟨b0, v0, f0, l0, rfl, o0, o1, o2⟩ := hO.resolve_left hk0
        have hkl : (0 : Int) < (k : Int) := by omega
        have hkn : 0 < k := by omega
        have hlt := World.block_lt_of_cell? _ _ o0
        simp only at hlt
        have q0 : ∀ o1 o2 o3 o4, ((((w.alloc o1).alloc o2).alloc o3).alloc o4).cell? ⟨b0, 0, none⟩ = some (.string v0) := fun p1 p2 p3 p4 => by rw [(HB4.out p1 p2 p3 p4).cell (p := ⟨b0, 0, none⟩) hlt]; exact o0
        have q1 : ∀ o1 o2 o3 o4, ((((w.alloc o1).alloc o2).alloc o3).alloc o4).cell? ⟨b0, 1, none⟩ = some (.string f0) := fun p1 p2 p3 p4 => by rw [(HB4.out p1 p2 p3 p4).cell (p := ⟨b0, 1, none⟩) hlt]; exact o1
        have q2 : ∀ o1 o2 o3 o4, ((((w.alloc o1).alloc o2).alloc o3).alloc o4).cell? ⟨b0, 2, none⟩ = some (.int .i64 l0) := fun p1 p2 p3 p4 => by rw [(HB4.out p1 p2 p3 p4).cell (p := ⟨b0, 2, none⟩) hlt]; exact o2
        clear o0 o1 o2
        clear hO
        go_enter Yba.func10, Yba.ntmps10
        go_wp2
        go_region
        go_wp2
        (try simp only [Exit.inBlock, Exit.then])
        refine bodyPost_ret (v := .tuple #[.agg #[.string i, .string s, .string ⟨#[101, 110, 97, 98, 108, 101, 95, 111, 110, 108, 121]⟩, .string v0, .string f0, .int .i64 l0], .bool true]) ?_ rfl ⟨⟨_, _, _, _, _, _, rfl⟩, ?_⟩
        · rw [results_cell_tmp rfl]
          go_simp
        · (repeat' (first | exact Below.refl _ _ | refine Below.drew ?_ | refine Below.alloc ?_ (by simp <;> omega) _))
end Go.Proofs.Ybulkedom
