import Derived.Test.YbulkednkFmtNum
import Derived.Shelf.Lay
import Derived.Shelf.Strconv.ParseBool
import Derived.Shelf.LaysM
import Derived.Shelf.LaysC
import Derived.Shelf.Strconv.Itoa3
import Derived.Shelf.Strconv.ErrVar
import Derived.Shelf.Strconv.AtoiAll
import Derived.Shelf.Strconv.ErrVarAll
import Derived.Ground.NamesProg
import Derived.WalkSmall
import Derived.Lib.ParseBool
import Derived.Lib.ItoaLen
import Derived.Lib.AtoiErrMem
import Derived.Lib.AppendIntMem
namespace Go.Proofs
open Go.Shelf
shelf_lay LaysM.n171 Nm 171 at Ybaf as Ybaf.laysM171
shelf_lay LaysC.n172 Nm 172 at Ybaf as Ybaf.laysC172
shelf_lay Lays.n175 Nm 175 at Ybaf as Ybaf.lays175
shelf_lay LaysC.n175 Nm 175 at Ybaf as Ybaf.laysC175
end Go.Proofs
namespace Go.Proofs.YbulkednkFmt
open Go.RowKit Go.Shelf
set_option linter.unusedVariables false

/-- The table's name, off the row's own list. -/
def tabName : String := (Rows.lawS6497CWholeRow.laid.map (·.1)).getD 2 ""
/-- What the listed variables hold. -/
structure LaidOk (w : World) : Prop where
  tab : Lib.TabIs Ybaf.prog w tabName .u64 Lib.pow10Tab
  syn : ∃ tp p, w.var? Ybaf.prog "strconv.ErrSyntax" = some #[.iface tp p]
  rng : ∃ tp p, w.var? Ybaf.prog "strconv.ErrRange" = some #[.iface tp p]

theorem var_later {w w' : World} {n : String} {cs : Array Value} (hv : w.var? Ybaf.prog n = some cs) (hb : Below w.heap.size w w') : w'.var? Ybaf.prog n = some cs := by
  unfold World.var? at hv ⊢
  cases hg : Ybaf.prog.globalNamed n with
  | none => rw [hg] at hv; cases hv
  | some g =>
    rw [hg] at hv
    simp only [Option.bind_some] at hv ⊢
    cases hq : w.heap[g]? with
    | none => rw [hq] at hv; cases hv
    | some o =>
      rw [hb.block g (Array.getElem?_eq_some_iff.1 hq).1]
      exact hv

theorem LaidOk.later {w w' : World} (h : LaidOk w) (hb : Below w.heap.size w w') : LaidOk w' := by
  obtain ⟨t1, p1, h1⟩ := h.syn
  obtain ⟨t2, p2, h2⟩ := h.rng
  exact ⟨var_later h.tab hb, ⟨t1, p1, var_later h1 hb⟩, ⟨t2, p2, var_later h2 hb⟩⟩

def itoaS (n : Int) : ByteArray := ⟨(Lib.itoa n).toArray⟩
theorem itoaS_size (n : Int) (h0 : -9223372036854775808 ≤ n) (h1 : n ≤ 9223372036854775807) : (itoaS n).size ≤ 21 := by
  have := Lib.itoa_length_le n h0 h1
  simpa [itoaS, ByteArray.size] using this

theorem itoa_any (n : Int) (h0 : -9223372036854775808 ≤ n) (h1 : n ≤ 9223372036854775807) (w : World) (hL : LaidOk w) :
    Calls Ybaf.prog 10 #[.int .i64 n] w fun e w' => e = .returned (.string (itoaS n)) ∧ Below w.heap.size w w' :=
  (Any.strconv_Itoa Ybaf.laysM171 n h0 h1 w hL.tab).mono fun e w' ⟨he, k, os, hw⟩ => ⟨he, by rw [hw]; exact Lib.below_grow _ _ (Nat.le_refl _) _ _⟩

/-- strconv.Atoi, at every string. -/
theorem atoi_any (s : ByteArray) (hs : s.size ≤ 281474976710656) (w : World) (hL : LaidOk w) :
    Calls Ybaf.prog 13 #[.string s] w fun e w' => ∃ v ev, e = .returned (.tuple #[.int .i64 v, ev]) ∧ Below w.heap.size w w' ∧ ((ev = .nilIface ∧ Lib.atoiAll s.data.toList = .ok v ∧ -9223372036854775808 ≤ v ∧ v ≤ 9223372036854775807) ∨ ((∃ t p, ev = .iface t p) ∧ okNat (Lib.atoiAll s.data.toList) = none)) := by
  obtain ⟨t1, p1, h1⟩ := hL.syn
  obtain ⟨t2, p2, h2⟩ := hL.rng
  cases h : Lib.atoiAll s.data.toList with
  | ok v =>
    refine (Any.strconv_Atoi_ok Ybaf.laysC172 s (by omega) v h w).mono ?_
    rintro e w' ⟨rfl, hw⟩
    refine ⟨v, _, rfl, ?_, .inl ⟨rfl, rfl, Lib.atoiAll_bounds h⟩⟩
    rcases hw with rfl | ⟨t, rfl⟩
    · exact Below.refl _ _
    · exact Lib.bytesWorld_below _ _ _
  | range =>
    refine (Any.strconv_Atoi_range_var Ybaf.laysC172 s hs h t2 p2 w h2).mono ?_
    rintro e w' ⟨N, rfl, _, _, hb⟩
    exact ⟨_, _, rfl, hb, .inr ⟨⟨_, _, rfl⟩, rfl⟩⟩
  | _ =>
    refine (Any.strconv_Atoi_syntax_var Ybaf.laysC172 s hs h t1 p1 w h1).mono ?_
    rintro e w' ⟨N, rfl, _, _, hb⟩
    exact ⟨_, _, rfl, hb, .inr ⟨⟨_, _, rfl⟩, rfl⟩⟩

/-- strconv.ParseBool, at every string. -/
theorem pbool_any (s : ByteArray) (hs : s.size ≤ 281474976710656) (w : World) (hL : LaidOk w) :
    Calls Ybaf.prog 15 #[.string s] w fun e w' => ∃ v ev, e = .returned (.tuple #[.bool v, ev]) ∧ Below w.heap.size w w' ∧ ((ev = .nilIface ∧ Lib.parseBool s.data.toList = some v) ∨ ((∃ t p, ev = .iface t p) ∧ Lib.parseBool s.data.toList = none)) := by
  obtain ⟨t1, p1, h1⟩ := hL.syn
  cases h : Lib.parseBool s.data.toList with
  | some v =>
    refine (Any.strconv_ParseBool Ybaf.lays175 s v h w).mono ?_
    rintro e w' ⟨rfl, rfl⟩
    exact ⟨v, _, rfl, Below.refl _ _, .inl ⟨rfl, rfl⟩⟩
  | none =>
    refine (Any.strconv_ParseBool_err_var Ybaf.laysC175 s hs h t1 p1 w h1).mono ?_
    rintro e w' ⟨N, rfl, _, _, hb⟩
    exact ⟨_, _, rfl, hb, .inr ⟨⟨_, _, rfl⟩, rfl⟩⟩

def boolV (o : Option Bool) : Value := match o with
  | some b => .tuple #[.bool b, .bool true]
  | none => .tuple #[.bool false, .bool false]

theorem bytes_eq {s : ByteArray} {l : Array UInt8} : (s = ⟨l⟩) ↔ s.data.toList = l.toList := by
  constructor
  · rintro rfl; rfl
  · intro h
    cases s with
    | mk d => simp at h; subst h; rfl

set_option maxRecDepth 100000 in
set_option maxHeartbeats 1600000 in
/-- zzs6497cbool. -/
theorem cbool_any (s : ByteArray) (w : World) : Calls Ybaf.prog 8 #[.string s] w fun e w' => e = .returned (boolV (Lib.parseBool s.data.toList)) ∧ w' = w := by
  by_cases h0 : s = ⟨#[49]⟩
  · subst h0
    go_enter Ybaf.func8, Ybaf.ntmps8
    go_wp2
    go_ret2
    exact ⟨rfl, rfl⟩
  by_cases h1 : s = ⟨#[116]⟩
  · subst h1
    go_enter Ybaf.func8, Ybaf.ntmps8
    go_wp2
    go_ret2
    exact ⟨rfl, rfl⟩
  by_cases h2 : s = ⟨#[84]⟩
  · subst h2
    go_enter Ybaf.func8, Ybaf.ntmps8
    go_wp2
    go_ret2
    exact ⟨rfl, rfl⟩
  by_cases h3 : s = ⟨#[84, 82, 85, 69]⟩
  · subst h3
    go_enter Ybaf.func8, Ybaf.ntmps8
    go_wp2
    go_ret2
    exact ⟨rfl, rfl⟩
  by_cases h4 : s = ⟨#[116, 114, 117, 101]⟩
  · subst h4
    go_enter Ybaf.func8, Ybaf.ntmps8
    go_wp2
    go_ret2
    exact ⟨rfl, rfl⟩
  by_cases h5 : s = ⟨#[84, 114, 117, 101]⟩
  · subst h5
    go_enter Ybaf.func8, Ybaf.ntmps8
    go_wp2
    go_ret2
    exact ⟨rfl, rfl⟩
  by_cases h6 : s = ⟨#[48]⟩
  · subst h6
    go_enter Ybaf.func8, Ybaf.ntmps8
    go_wp2
    go_ret2
    exact ⟨rfl, rfl⟩
  by_cases h7 : s = ⟨#[102]⟩
  · subst h7
    go_enter Ybaf.func8, Ybaf.ntmps8
    go_wp2
    go_ret2
    exact ⟨rfl, rfl⟩
  by_cases h8 : s = ⟨#[70]⟩
  · subst h8
    go_enter Ybaf.func8, Ybaf.ntmps8
    go_wp2
    go_ret2
    exact ⟨rfl, rfl⟩
  by_cases h9 : s = ⟨#[70, 65, 76, 83, 69]⟩
  · subst h9
    go_enter Ybaf.func8, Ybaf.ntmps8
    go_wp2
    go_ret2
    exact ⟨rfl, rfl⟩
  by_cases h10 : s = ⟨#[102, 97, 108, 115, 101]⟩
  · subst h10
    go_enter Ybaf.func8, Ybaf.ntmps8
    go_wp2
    go_ret2
    exact ⟨rfl, rfl⟩
  by_cases h11 : s = ⟨#[70, 97, 108, 115, 101]⟩
  · subst h11
    go_enter Ybaf.func8, Ybaf.ntmps8
    go_wp2
    go_ret2
    exact ⟨rfl, rfl⟩
  have hz : Lib.parseBool s.data.toList = none := by
    rw [Lib.parseBool_bytes]
    simp only [bytes_eq] at h0 h1 h2 h3 h4 h5 h6 h7 h8 h9 h10 h11
    simp_all
  have HZ := hide hz
  clear hz
  have q0 : (s.toList == [49]) = false := by rw [Lib.toList_data]; exact beq_eq_false_iff_ne.2 fun e => h0 (bytes_eq.2 e)
  have q1 : (s.toList == [116]) = false := by rw [Lib.toList_data]; exact beq_eq_false_iff_ne.2 fun e => h1 (bytes_eq.2 e)
  have q2 : (s.toList == [84]) = false := by rw [Lib.toList_data]; exact beq_eq_false_iff_ne.2 fun e => h2 (bytes_eq.2 e)
  have q3 : (s.toList == [84, 82, 85, 69]) = false := by rw [Lib.toList_data]; exact beq_eq_false_iff_ne.2 fun e => h3 (bytes_eq.2 e)
  have q4 : (s.toList == [116, 114, 117, 101]) = false := by rw [Lib.toList_data]; exact beq_eq_false_iff_ne.2 fun e => h4 (bytes_eq.2 e)
  have q5 : (s.toList == [84, 114, 117, 101]) = false := by rw [Lib.toList_data]; exact beq_eq_false_iff_ne.2 fun e => h5 (bytes_eq.2 e)
  have q6 : (s.toList == [48]) = false := by rw [Lib.toList_data]; exact beq_eq_false_iff_ne.2 fun e => h6 (bytes_eq.2 e)
  have q7 : (s.toList == [102]) = false := by rw [Lib.toList_data]; exact beq_eq_false_iff_ne.2 fun e => h7 (bytes_eq.2 e)
  have q8 : (s.toList == [70]) = false := by rw [Lib.toList_data]; exact beq_eq_false_iff_ne.2 fun e => h8 (bytes_eq.2 e)
  have q9 : (s.toList == [70, 65, 76, 83, 69]) = false := by rw [Lib.toList_data]; exact beq_eq_false_iff_ne.2 fun e => h9 (bytes_eq.2 e)
  have q10 : (s.toList == [102, 97, 108, 115, 101]) = false := by rw [Lib.toList_data]; exact beq_eq_false_iff_ne.2 fun e => h10 (bytes_eq.2 e)
  have q11 : (s.toList == [70, 97, 108, 115, 101]) = false := by rw [Lib.toList_data]; exact beq_eq_false_iff_ne.2 fun e => h11 (bytes_eq.2 e)
  clear h0 h1 h2 h3 h4 h5 h6 h7 h8 h9 h10 h11
  go_enter Ybaf.func8, Ybaf.ntmps8
  go_wp2
  go_ret2
  exact ⟨ret_eq (by rw [HZ.out]; rfl), rfl⟩
end Go.Proofs.YbulkednkFmt
