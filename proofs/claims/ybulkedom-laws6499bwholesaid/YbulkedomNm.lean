import Derived.Test.YbulkedomRw
import Derived.BigRegion
namespace Go.Proofs.Ybulkedom
open Go.RowKit
set_option linter.unusedVariables false

/-- The name that a byte stands for. -/
def nmB (x : Int) : ByteArray :=
  if x % 6 = 0 then ⟨#[112, 114, 111, 102, 105, 108, 101]⟩ else if x % 6 = 1 then ⟨#[100, 110, 115]⟩ else if x % 6 = 2 then ⟨#[100, 111, 109, 97, 105, 110]⟩ else if x % 6 = 3 then ⟨#[107, 53, 105, 100, 101, 110, 116, 105, 116, 121]⟩ else if x % 6 = 4 then ⟨#[97, 110, 50, 108, 110]⟩ else ⟨#[97, 117, 116, 104, 95, 116, 111, 95, 108, 111, 99, 97, 108]⟩
theorem nmB_size (x : Int) : (nmB x).size ≤ 64 := by
  unfold nmB
  repeat' split
  all_goals decide

set_option maxRecDepth 100000 in
theorem name_any (x : Int) (w : World) (h0 : 0 ≤ x) (h1 : x ≤ 255) : Calls Yba.prog 4 #[.int .u8 x] w fun e w' => e = .returned (.string (nmB x)) ∧ w' = w := by
  obtain ⟨r, hr⟩ : ∃ r : Int, x % 6 = r := ⟨_, rfl⟩
  have ht : x.tmod 6 = r := by rw [Int.tmod_eq_emod_of_nonneg h0]; exact hr
  have hn : nmB x = (if r = 0 then ⟨#[112, 114, 111, 102, 105, 108, 101]⟩ else if r = 1 then ⟨#[100, 110, 115]⟩ else if r = 2 then ⟨#[100, 111, 109, 97, 105, 110]⟩ else if r = 3 then ⟨#[107, 53, 105, 100, 101, 110, 116, 105, 116, 121]⟩ else if r = 4 then ⟨#[97, 110, 50, 108, 110]⟩ else ⟨#[97, 117, 116, 104, 95, 116, 111, 95, 108, 111, 99, 97, 108]⟩) := by rw [← hr]; rfl
  rw [hn]
  clear hn
  have hc : r = 0 ∨ r = 1 ∨ r = 2 ∨ r = 3 ∨ r = 4 ∨ r = 5 := by omega
  rcases hc with rfl | rfl | rfl | rfl | rfl | rfl
  all_goals
    go_enter Yba.func4, Yba.ntmps4
    go_wp2
    go_ret
    exact ⟨rfl, rfl⟩

theorem str_yes {a b : ByteArray} (h : a = b) : (a.toList == b.toList) = true := by rw [h]; simp
theorem str_no {a b : ByteArray} (h : ¬ a = b) : (a.toList == b.toList) = false := by
  rw [ByteArray.toList_eq, ByteArray.toList_eq]
  refine beq_eq_false_iff_ne.2 fun e => h ?_
  cases a; cases b
  congr 1
  exact Array.ext' e

/-- A row of numbers that came in. -/
def Ain (w : World) (k : IntKind) (a : Option Addr) (n : Nat) (z : Nat → Int) : Prop := n = 0 ∨ ∃ x, a = some x ∧ ∀ j, j < n → w.cell? (x.add j) = some (.int k (z j))
theorem Ain.below {w w' : World} {k : IntKind} {a : Option Addr} {n : Nat} {z : Nat → Int} (h : Ain w k a n z) (hb : Below w.heap.size w w') : Ain w' k a n z := by
  rcases h with h | ⟨x, rfl, h⟩
  · exact .inl h
  · exact .inr ⟨x, rfl, fun j hj => by rw [hb.cell (World.block_lt_of_cell? _ _ (h j hj))]; exact h j hj⟩
theorem Ain.get {w : World} {k : IntKind} {a : Option Addr} {n : Nat} {z : Nat → Int} (h : Ain w k a n z) {j : Nat} (hj : j < n) : ∃ x, a = some x ∧ w.cell? (x.add j) = some (.int k (z j)) := by
  rcases h with h | ⟨x, rfl, h⟩
  · omega
  · exact ⟨x, rfl, h j hj⟩

/-- Is the name among the first n? -/
def disR (z : Nat → Int) : Nat → ByteArray → Bool
  | 0, _ => false
  | n + 1, s => disR z n s || decide (nmB (z n) = s)
/-- What the first pair that bears the name gives. -/
def fstR (z y : Nat → Int) : Nat → ByteArray → Option Int
  | 0, _ => none
  | n + 1, s => match fstR z y n s with
    | some v => some v
    | none => if nmB (z n) = s then some (y n) else none
theorem disR_no {z : Nat → Int} {n : Nat} {s : ByteArray} (h : disR z n s = false) (hn : ¬ nmB (z n) = s) : disR z (n + 1) s = false := by
  show (disR z n s || decide (nmB (z n) = s)) = false
  rw [h, decide_eq_false hn]; rfl
theorem disR_yes {z : Nat → Int} {n : Nat} {s : ByteArray} (hn : nmB (z n) = s) : disR z (n + 1) s = true := by
  show (disR z n s || decide (nmB (z n) = s)) = true
  rw [decide_eq_true hn]; simp
theorem disR_up {z : Nat → Int} {n m : Nat} {s : ByteArray} (h : disR z n s = true) (hm : n ≤ m) : disR z m s = true := by
  induction m with
  | zero => obtain rfl : n = 0 := by omega
            exact h
  | succ m ih =>
    by_cases e : n = m + 1
    · rw [← e]; exact h
    · show (disR z m s || decide (nmB (z m) = s)) = true
      rw [ih (by omega)]; rfl
theorem fstR_no {z y : Nat → Int} {n : Nat} {s : ByteArray} (h : fstR z y n s = none) (hn : ¬ nmB (z n) = s) : fstR z y (n + 1) s = none := by
  unfold fstR
  rw [h]
  exact if_neg hn
theorem fstR_yes {z y : Nat → Int} {n : Nat} {s : ByteArray} (h : fstR z y n s = none) (hn : nmB (z n) = s) : fstR z y (n + 1) s = some (y n) := by
  unfold fstR
  rw [h]
  exact if_pos hn
theorem fstR_old {z y : Nat → Int} {n : Nat} {s : ByteArray} {v : Int} (h : fstR z y n s = some v) : fstR z y (n + 1) s = some v := by
  unfold fstR
  rw [h]
theorem fstR_up {z y : Nat → Int} {n m : Nat} {s : ByteArray} {v : Int} (h : fstR z y n s = some v) (hm : n ≤ m) : fstR z y m s = some v := by
  induction m with
  | zero => obtain rfl : n = 0 := by omega
            exact h
  | succ m ih =>
    by_cases e : n = m + 1
    · rw [← e]; exact h
    · exact fstR_old (ih (by omega))

set_option maxRecDepth 100000 in
theorem disabled_any (a : Option Addr) (n cap : Nat) (z : Nat → Int) (s : ByteArray) (w : World) (hA : Ain w .u8 a n z) (hz : ∀ j, 0 ≤ z j ∧ z j ≤ 255) (hn : n ≤ 4096) :
    Calls Yba.prog 7 #[.slice a n cap, .string s] w fun e w' => e = .returned (.bool (disR z n s)) ∧ w' = w := by
  have HA := hide hA
  have HZ := hide hz
  clear hA hz
  go_enter Yba.func7, Yba.ntmps7
  go_wp2_with fail
  go_loopw [9] (fun i W => ∃ k : Nat, k ≤ n ∧ i = .int .i64 k ∧ W = w ∧ Hid (disR z k s = false)) (fun i _ => n - (intOf i).toNat)
  case atStart => exact ⟨0, by omega, rfl, rfl, rfl⟩
  case round =>
    obtain ⟨k, hk, rfl, hw, HD⟩ := hrel
    obtain rfl := hw.symm
    by_cases hlt : k < n
    · obtain ⟨x, rfl, hc⟩ := HA.out.get hlt
      obtain ⟨h0, h1⟩ := HZ.out k
      have bk : (k : Int) < (n : Int) := by omega
      have HN := hide (name_any (z k) w h0 h1)
      by_cases he : nmB (z k) = s
      · have hq := str_yes he
        have HR := hide (disR_up (disR_yes (n := k) he) (show k + 1 ≤ n by omega))
        go_wp2_with (go_at_call 4; refine HN.out.mono ?_; rintro e w' ⟨rfl, hw⟩; obtain rfl := hw.symm)
        go_ret
        exact ⟨by rw [HR.out]; rfl, rfl⟩
      · have hq := str_no he
        have HR := hide (disR_no HD.out he)
        go_wp2_with (go_at_call 4; refine HN.out.mono ?_; rintro e w' ⟨rfl, hw⟩; obtain rfl := hw.symm)
        go_roundw
        case rel => exact ⟨k + 1, by omega, by go_num, by first | rfl | trivial, HR⟩
        case measure => simp [intOf]; omega
    · have hkn : k = n := by omega
      have HR : Hid (disR z n s = false) := hkn ▸ HD.out
      have hk2 : ¬ (k : Int) < (n : Int) := by omega
      clear hkn
      go_wp2_with fail
      go_ret
      exact ⟨by rw [HR.out]; rfl, rfl⟩

set_option maxRecDepth 100000 in
theorem first_any (a a' : Option Addr) (n n' cap cap' m : Nat) (z y : Nat → Int) (s : ByteArray) (w : World) (hA : Ain w .u8 a n z) (hA' : Ain w .i64 a' n' y) (hz : ∀ j, 0 ≤ z j ∧ z j ≤ 255) (hm : m ≤ n) (hm' : m ≤ n') (hn : n ≤ 4096) (hn' : n' ≤ 4096) :
    Calls Yba.prog 8 #[.slice a n cap, .slice a' n' cap', .int .i64 m, .string s] w fun e w' => e = .returned (.tuple #[.int .i64 ((fstR z y m s).getD 0), .bool (fstR z y m s).isSome]) ∧ w' = w := by
  have HA := hide hA
  have HA' := hide hA'
  have HZ := hide hz
  clear hA hz hA'
  go_enter Yba.func8, Yba.ntmps8
  go_wp2_with fail
  go_loopw [10] (fun i W => ∃ k : Nat, k ≤ m ∧ i = .int .i64 k ∧ W = w ∧ Hid (fstR z y k s = none)) (fun i _ => m - (intOf i).toNat)
  case atStart => exact ⟨0, by omega, rfl, rfl, rfl⟩
  case round =>
    obtain ⟨k, hk, rfl, hw, HD⟩ := hrel
    obtain rfl := hw.symm
    by_cases hlt : k < m
    · obtain ⟨x, rfl, hc⟩ := HA.out.get (show k < n by omega)
      obtain ⟨x', rfl, hc'⟩ := HA'.out.get (show k < n' by omega)
      obtain ⟨h0, h1⟩ := HZ.out k
      have bk : (k : Int) < (n : Int) := by omega
      have bk' : (k : Int) < (n' : Int) := by omega
      have HN := hide (name_any (z k) w h0 h1)
      by_cases he : nmB (z k) = s
      · have hq := str_yes he
        have HR := hide (fstR_up (fstR_yes HD.out he) (show k + 1 ≤ m by omega))
        go_wp2_with (go_at_call 4; refine HN.out.mono ?_; rintro e w' ⟨rfl, hw⟩; obtain rfl := hw.symm)
        go_ret2
        exact ⟨by rw [HR.out]; rfl, rfl⟩
      · have hq := str_no he
        have HR := hide (fstR_no HD.out he)
        go_wp2_with (go_at_call 4; refine HN.out.mono ?_; rintro e w' ⟨rfl, hw⟩; obtain rfl := hw.symm)
        go_roundw
        case rel => exact ⟨k + 1, by omega, by go_num, by first | rfl | trivial, HR⟩
        case measure => simp [intOf]; omega
    · have hkn : k = m := by omega
      have HR : Hid (fstR z y m s = none) := hkn ▸ HD.out
      have hk2 : ¬ (k : Int) < (m : Int) := by omega
      clear hkn
      go_wp2_with fail
      go_ret2
      exact ⟨by rw [HR.out]; rfl, rfl⟩
end Go.Proofs.Ybulkedom
