import Derived.Test.YbulkednkLinked
namespace Go.Proofs.Ybulkednk
open Go.RowKit Go.Maps
set_option linter.unusedVariables false

theorem hide {p : Prop} (h : p) : Hid p := h
theorem ret_bool {a b : Bool} (h : a = b) : Ending.returned (.bool a) = .returned (.bool b) := by rw [h]
theorem at_op {P : Program} {ops : Array Oper} {rest : List Oper} {op : Oper} {a : Act} {w : World} {Q : Exit → Act → World → Prop} (o : Op) (_ : op.op = o) (k : wpList P ops Q (op :: rest) a w) : wpList P ops Q (op :: rest) a w := k

/-- What the law is told of its slice of strings. -/
def ArgS (w : World) (a : Option Addr) (n : Nat) (l : List ByteArray) : Prop :=
  l.length = n ∧ (∀ s ∈ l, s.size ≤ maxLen) ∧ ((a = none ∧ n = 0) ∨ ∃ x, a = some x ∧ ∀ j s, l[j]? = some s → w.cell? (x.add j) = some (.string s))

/-- Is entry i's link alive? (bit i%64 of the word is 0) -/
def liveB (nb : Int) (i : Nat) : Bool := bits BinOp.and IntKind.u64 (nb / 2 ^ (i % 64)) 1 == 0

/-- The model's two marks behind k rounds. -/
def marks (l : List ByteArray) (nb : Int) (p : ByteArray) : Nat → Bool × Bool
  | 0 => (false, false)
  | k + 1 => if l[k]? = some p then (true, liveB nb k) else marks l nb p k

set_option maxRecDepth 100000 in
set_option maxHeartbeats 1600000 in
theorem model_any (a : Option Addr) (len cap : Nat) (l : List ByteArray) (nb : Int) (p : ByteArray) (w : World) (h0 : 0 ≤ nb) (h1 : nb ≤ 18446744073709551615) (hA : ArgS w a len l) (hn : len ≤ 65536) :
    Calls Yba.prog 7 #[.slice a len cap, .int .u64 nb, .string p] w fun e w' => e = .returned (.bool ((marks l nb p len).1 && (marks l nb p len).2)) ∧ w' = w := by
  obtain ⟨hl, hsz, hA⟩ := hA
  go_enter Yba.func7, Yba.ntmps7
  go_wp2_with fail
  go_loopw [7, 8, 9] (fun f g i W => ∃ k : Nat, k ≤ len ∧ f = .bool (marks l nb p k).1 ∧ g = .bool (marks l nb p k).2 ∧ i = .int .i64 k ∧ W = w) (fun _ _ i _ => len - (intOf i).toNat)
  case atStart => exact ⟨0, by omega, rfl, rfl, rfl, rfl⟩
  case round =>
    obtain ⟨k, hk, rfl, rfl, rfl, rfl⟩ := hrel
    by_cases hkl : k < len
    · rcases hA with ⟨_, h⟩ | ⟨x, rfl, hx⟩
      · omega
      · obtain ⟨s, hs⟩ : ∃ s, l[k]? = some s := ⟨l[k]'(by omega), List.getElem?_eq_getElem (by omega)⟩
        have hc := hx k s hs
        have e1 : marks l nb p (k + 1) = if s = p then (true, liveB nb k) else marks l nb p k := by
          rw [marks, hs]; simp
        have HE := hide e1
        clear hx hs e1
        by_cases hsp : s = p
        · have eB : (s.toList == p.toList) = true := by simp [hsp]
          rw [if_pos hsp] at HE
          go_wp2_with fail
          go_roundw
          case rel => exact ⟨k + 1, by omega, by rw [HE.out], by rw [HE.out, liveB], by go_num, trivial⟩
          case measure => simp [intOf]; omega
        · have eB : (s.toList == p.toList) = false := by
            simp only [beq_eq_false_iff_ne, ne_eq, ByteArray.toList_eq]
            exact fun h => hsp (WideShapes.bytes_inj h)
          rw [if_neg hsp] at HE
          go_wp2_with fail
          go_roundw
          case rel => exact ⟨k + 1, by omega, by rw [HE.out], by rw [HE.out], by go_num, trivial⟩
          case measure => simp [intOf]; omega
    · have : k = len := by omega
      subst this
      rcases hm : marks l nb p k with ⟨f, g⟩
      cases f
      all_goals
        go_wp2_with fail
        go_ret
        exact ⟨ret_bool (by simp [hm]), rfl⟩
end Go.Proofs.Ybulkednk
