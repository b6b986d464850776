import Derived.Test.YbulkednkFmtLib
import Derived.BigQuiet
import Derived.Deep.WholeRow
import Derived.Deep.QuietTactic
import Derived.Deep.RegionHeld3
namespace Go.Proofs.YbulkednkFmt
open Go.RowKit
set_option linter.unusedVariables false

def wdL : List ByteArray := [⟨#[49]⟩, ⟨#[116]⟩, ⟨#[84]⟩, ⟨#[84, 82, 85, 69]⟩, ⟨#[116, 114, 117, 101]⟩, ⟨#[84, 114, 117, 101]⟩, ⟨#[48]⟩, ⟨#[102]⟩, ⟨#[70]⟩, ⟨#[70, 65, 76, 83, 69]⟩, ⟨#[102, 97, 108, 115, 101]⟩, ⟨#[70, 97, 108, 115, 101]⟩, ⟨#[121, 101, 115]⟩, ⟨#[50]⟩]
def wd (i : Nat) : ByteArray := wdL.getD i ByteArray.empty
def wordsA : Array Value := (wdL.map Value.string).toArray

/-- The first value of a parameter, or nothing. -/
def textOf (m n : Int) (S : ByteArray) (flag : Bool) : ByteArray :=
  if m % 4 = 2 then (if flag then wd ((n % 18446744073709551616) % 14).toNat else itoaS n) else if m % 4 = 3 then S else ByteArray.empty

theorem textOf_size (m n : Int) (S : ByteArray) (flag : Bool) (h0 : -9223372036854775808 ≤ n) (h1 : n ≤ 9223372036854775807) (hS : S.size ≤ 1048576) : (textOf m n S flag).size ≤ 1048576 := by
  unfold textOf
  split
  · split
    · have : ∀ i, (wd i).size ≤ 5 := fun i => by
        by_cases hi : i < 14
        · have : ∀ i : Fin 14, (wd i.val).size ≤ 5 := by decide
          exact this ⟨i, hi⟩
        · unfold wd
          rw [List.getD_eq_getElem?_getD, List.getElem?_eq_none (by show 14 ≤ i; omega)]; decide
      have := this ((n % 18446744073709551616) % 14).toNat
      omega
    · have := itoaS_size n h0 h1
      omega
  · split
    · exact hS
    · decide

theorem words_any (w : World) : Calls Ybaf.prog 9 #[] w fun e w' => e = .returned (.agg wordsA) ∧ Below w.heap.size w w' := by
  go_enter Ybaf.func9, Ybaf.ntmps9
  go_wp2
  refine bodyPost_ret_by (results_cell_row Ybaf.results9 _ _ w.heap.size 43 wordsA (0, 0) _ rfl (heap_alloc_new w _) Ybaf.underlying43 rfl (by kernel_rfl)) rfl ⟨rfl, (Below.refl _ _).alloc (Nat.le_refl _) _⟩

theorem words_cell {W : World} {b : Nat} (h : W.heap[b]? = some (.cells wordsA 43 (0, 0))) {i : Nat} (hi : i < 14) : W.cell? ⟨b, i, none⟩ = some (.string (wd i)) := by
  rw [cell_of_row _ _ _ _ _ _ h]
  have : ∀ i : Fin 14, wordsA[i.val]? = some (.string (wd i.val)) := by
    intro i
    have hl : i.val < wdL.length := i.isLt
    simp [wordsA, wd, List.getD_eq_getElem?_getD, List.getElem?_eq_getElem hl]
  exact this ⟨i, hi⟩

/-- A guard: this operation and no other. -/
theorem at_op {P : Program} {ops : Array Oper} {rest : List Oper} {op : Oper} {a : Act} {w : World} {Q : Exit → Act → World → Prop} (o : Op) (_ : op.op = o) (k : wpList P ops Q (op :: rest) a w) : wpList P ops Q (op :: rest) a w := k

/-- A whole value stored into the block that was just made for it. -/
theorem wpList_store_new {P : Program} {ops : Array Oper} {rest : List Oper} {op : Oper} {a : Act} {W : World} {Q : Exit → Act → World → Prop} (hgd : op.guard = none) (ty : TypeId) (x y : Operand) (ho : op.op = .store ty x y)
    (w : World) (c c' : Array Value) (hx : a.eval x = .pointer (some ⟨w.heap.size, 0, none⟩)) (hy : a.eval y = .agg c')
    (hi : (P.info? ty).map (·.size) = some c'.size) (hW : W = w.alloc (.cells c ty)) (hc : c.size = c'.size) (h1 : c'.all (·.oneCell') = true)
    (h : wpList P ops Q rest (a.put op.dst undef) (w.alloc (.cells c' ty))) : wpList P ops Q (op :: rest) a W :=
  wpList_plain hgd fun K hK => by
    subst hW
    unfold Oper.wp execOp
    simp only [ho, hx, hy, run_storeAt_new w ty c c' hi hc h1, Sem.run_bind, Result.andThen_ok, Sem.run_pure]
    exact hK _ _ h
theorem one43 : wordsA.all (·.oneCell') = true := by kernel_rfl

theorem u64_14 (n : Int) : ∃ i : Nat, i < 14 ∧ (n % 18446744073709551616) % 14 = (i : Int) ∧ (IntKind.u64.wrap n).tmod 14 = (i : Int) := ⟨((n % 18446744073709551616) % 14).toNat, by omega, by omega, by
  rw [IntKind.wrap_u64, Int.tmod_eq_emod_of_nonneg (by omega)]; omega⟩

set_option maxRecDepth 100000 in
set_option maxHeartbeats 1600000 in
/-- zzs6497ctext. -/
theorem text_any (m n : Int) (S : ByteArray) (flag : Bool) (w : World) (m0 : 0 ≤ m) (m1 : m ≤ 255) (h0 : -9223372036854775808 ≤ n) (h1 : n ≤ 9223372036854775807) (hL : LaidOk w) :
    Calls Ybaf.prog 6 #[.agg #[.int .u8 m, .int .i64 n, .string S], .bool flag] w fun e w' => e = .returned (.string (textOf m n S flag)) ∧ Below w.heap.size w w' := by
  have HL := hide hL
  clear hL
  by_cases h2 : m % 4 = 2
  · cases flag
    · have HT : Hid (textOf m n S false = itoaS n) := by show _ = _; simp [textOf, h2]
      go_enter Ybaf.func6, Ybaf.ntmps6
      go_wp2_with fail
      refine (itoa_any n h0 h1 _ (HL.out.later ((Below.refl _ _).alloc (Nat.le_refl _) _))).mono ?_
      rintro e w' ⟨rfl, hb⟩
      have HB := hide (((Below.refl w.heap.size w).alloc (Nat.le_refl _) (Obj.cells #[.int .u8 m, .int .i64 n, .string S] 23)).trans (hb.mono (by simp)))
      clear hb
      go_wp2_with fail
      go_ret
      exact ⟨ret_eq (by rw [HT.out]; rfl), HB.out⟩
    · obtain ⟨i, hi, hie, hiw⟩ := u64_14 n
      have HT : Hid (textOf m n S true = wd i) := by show _ = _; simp [textOf, h2, hie]
      clear hie
      go_enter Ybaf.func6, Ybaf.ntmps6
      go_wp2_with fail
      refine (words_any _).mono ?_
      rintro e w' ⟨rfl, hb⟩
      have hb1 : Below w.heap.size w w' := ((Below.refl w.heap.size w).alloc (Nat.le_refl _) (Obj.cells #[.int .u8 m, .int .i64 n, .string S] 23)).trans (hb.mono (by simp))
      have hx := heap_alloc_new w (Obj.cells #[.int .u8 m, .int .i64 n, .string S] 23)
      have hlt : w.heap.size < (w.alloc (Obj.cells #[.int .u8 m, .int .i64 n, .string S] 23)).heap.size := by simp
      have k1 : (w'.alloc (.cells wordsA 43)).cell? ⟨w.heap.size, 1, none⟩ = some (.int .i64 n) := by
        rw [World.cell?_of_block (w := w.alloc (Obj.cells #[.int .u8 m, .int .i64 n, .string S] 23)) (by rw [Below.heap_alloc _ _ _ (show w.heap.size < _ by have := hb.size; omega)]; exact hb.block _ hlt), cell_of_row _ _ _ _ _ _ hx]; rfl
      have k2 : (w'.alloc (.cells wordsA 43)).cell? ⟨w'.heap.size, i, none⟩ = some (.string (wd i)) := words_cell (heap_alloc_new w' _) hi
      have HB := hide (hb1.alloc hb1.size (.cells wordsA 43))
      clear hb hb1 hx hlt
      go_wp2_with (refine at_op (.store 43 (.tmp 5) (.tmp 12)) rfl ?_; refine wpList_store_new rfl 43 _ _ rfl w' _ wordsA rfl rfl (by kernel_rfl) rfl (by kernel_rfl) one43 ?_)
      go_ret
      exact ⟨ret_eq (by rw [HT.out]; rfl), HB.out⟩
  · by_cases h3 : m % 4 = 3
    · have HT : Hid (textOf m n S flag = S) := by show _ = _; simp [textOf, h3]
      go_enter Ybaf.func6, Ybaf.ntmps6
      go_wp2_with fail
      go_ret
      exact ⟨ret_eq (by rw [HT.out]; rfl), (Below.refl _ _).alloc (Nat.le_refl _) _⟩
    · have HT : Hid (textOf m n S flag = ByteArray.empty) := by show _ = _; simp [textOf, h2, h3]
      go_enter Ybaf.func6, Ybaf.ntmps6
      go_wp2_with fail
      go_ret
      exact ⟨ret_eq (by rw [HT.out]; rfl), (Below.refl _ _).alloc (Nat.le_refl _) _⟩

/-- A slice whose first string is t (none: t is empty). -/
def TextAt (W : World) (v : Value) (t : ByteArray) : Prop := ∃ a len cap, v = .slice a len cap ∧ len ≤ 2 ∧ ((len = 0 ∧ t = ByteArray.empty) ∨ (0 < len ∧ ∃ b, a = some ⟨b, 0, none⟩ ∧ W.cell? ⟨b, 0, none⟩ = some (.string t)))

theorem TextAt.later {W W' : World} {v : Value} {t : ByteArray} (h : TextAt W v t) (hb : Below W.heap.size W W') : TextAt W' v t := by
  obtain ⟨a, len, cap, rfl, hl, h | ⟨h0, b, rfl, hc⟩⟩ := h
  · exact ⟨a, len, cap, rfl, hl, .inl h⟩
  · exact ⟨_, len, cap, rfl, hl, .inr ⟨h0, b, rfl, by rw [hb.cell (World.block_lt_of_cell? _ _ hc)]; exact hc⟩⟩

theorem LaidOk.drewN {w : World} (h : LaidOk w) (k : Nat) : LaidOk (w.drewN k) := ⟨h.tab, h.syn, h.rng⟩
theorem keep_dr {w : World} {k : Nat} {w1 : World} {p : Addr} {v : Value} (hb : Below (w.drewN k).heap.size (w.drewN k) w1) (hp : p.block < w.heap.size) (h : w.cell? p = some v) : w1.cell? p = some v := by
  rw [hb.cell hp]; exact h
theorem heap_at {b : Nat} (W : World) (o : Obj) (h : b = W.heap.size) : (W.alloc o).heap[b]? = some o := by subst h; exact heap_alloc_new W o

def valsPost (m n : Int) (S : ByteArray) (flag : Bool) (w : World) : Ending → World → Prop := fun e w' => ∃ v, e = .returned (.tuple #[v, .bool (decide (¬ m % 4 = 0))]) ∧ TextAt w' v (textOf m n S flag) ∧ Below w.heap.size w w'

theorem valsPost_mk {m n : Int} {S : ByteArray} {flag : Bool} {w w' : World} (e0 : ¬ m % 4 = 0) (v : Value) (ht : TextAt w' v (textOf m n S flag)) (hb : Below w.heap.size w w') : valsPost m n S flag w (.returned (.tuple #[v, .bool true])) w' := ⟨v, by rw [decide_eq_true e0], ht, hb⟩

set_option maxRecDepth 100000 in
set_option maxHeartbeats 1600000 in
/-- zzs6497cvalues. -/
theorem vals_any (m n : Int) (S : ByteArray) (flag : Bool) (w : World) (m0 : 0 ≤ m) (m1 : m ≤ 255) (h0 : -9223372036854775808 ≤ n) (h1 : n ≤ 9223372036854775807) (hL : LaidOk w) :
    Calls Ybaf.prog 4 #[.agg #[.int .u8 m, .int .i64 n, .string S], .bool flag] w (valsPost m n S flag w) := by
  have HL := hide hL
  clear hL
  by_cases e0 : m % 4 = 0
  · have HT : Hid (valsPost m n S flag w (.returned (.tuple #[.slice none 0 0, .bool false])) (w.alloc (Obj.cells #[.int .u8 m, .int .i64 n, .string S] 23))) := by
      refine ⟨_, by simp [e0], ⟨none, 0, 0, rfl, by omega, .inl ⟨rfl, by simp [textOf, e0]⟩⟩, (Below.refl _ _).alloc (Nat.le_refl _) _⟩
    go_enter Ybaf.func4, Ybaf.ntmps4
    go_wp2_with fail
    go_ret2
    exact HT.out
  by_cases e1 : m % 4 = 1
  · go_enter Ybaf.func4, Ybaf.ntmps4
    go_wp2_with fail
    go_ret2
    exact valsPost_mk e0 (.slice (some ⟨w.heap.size + 1, 0, none⟩) 0 0) ⟨_, 0, 0, rfl, by omega, .inl ⟨rfl, by simp [textOf, e1]⟩⟩ (((Below.refl _ _).alloc (Nat.le_refl _) _).alloc (by simp) _)
  by_cases e2 : m % 4 = 2
  · cases flag
    · have HT : Hid (textOf m n S false = itoaS n) := by show _ = _; simp [textOf, e2]
      go_enter Ybaf.func4, Ybaf.ntmps4
      go_wp2_with fail
      have hx := heap_alloc_new w (Obj.cells #[.int .u8 m, .int .i64 n, .string S] 23)
      have c1 : (w.alloc (Obj.cells #[.int .u8 m, .int .i64 n, .string S] 23)).cell? ⟨w.heap.size, 1, none⟩ = some (.int .i64 n) := by rw [cell_of_row _ _ _ _ _ _ hx]; rfl
      have c2 : (w.alloc (Obj.cells #[.int .u8 m, .int .i64 n, .string S] 23)).cell? ⟨w.heap.size, 2, none⟩ = some (.string S) := by rw [cell_of_row _ _ _ _ _ _ hx]; rfl
      have HB := hide ((Below.refl w.heap.size w).alloc (Nat.le_refl _) (Obj.cells #[.int .u8 m, .int .i64 n, .string S] 23))
      have HL2 := hide (HL.out.later HB.out)
      have hlt : w.heap.size < (w.alloc (Obj.cells #[.int .u8 m, .int .i64 n, .string S] 23)).heap.size := by simp
      clear hx HL
      generalize w.alloc (Obj.cells #[.int .u8 m, .int .i64 n, .string S] 23) = W0 at *
      obtain ⟨B, hB⟩ : ∃ B, w.heap.size = B := ⟨_, rfl⟩
      rw [hB] at c1 c2 hlt ⊢
      go_region_held3 (fun w' => w'.cell? ⟨B, 1, none⟩ = some (.int .i64 n) ∧ w'.cell? ⟨B, 2, none⟩ = some (.string S)) (go_keep)
        ((go_at_call 10; refine (itoa_any n h0 h1 _ (HL2.out.drewN _)).mono ?_; rintro e w1 ⟨rfl, hb⟩; have k1 := keep_dr hb hlt c1; have k2 := keep_dr hb hlt c2))
      have HB1 := hide (HB.out.trans ((below_drewN (Below.refl _ _) 1).trans (hb.mono (Nat.le_refl _))  |>.mono HB.out.size))
      clear hb k1 k2 c1 c2
      go_wp2_with fail
      go_ret2
      refine valsPost_mk e0 (.slice (some ⟨w1.heap.size, 0, none⟩) 2 2) ⟨_, 2, 2, rfl, by omega, .inr ⟨by omega, w1.heap.size, rfl, ?_⟩⟩ (HB1.out.alloc HB1.out.size _)
      rw [HT.out, cell_of_row _ _ _ _ _ _ (heap_alloc_new w1 _)]; rfl
    · obtain ⟨i, hi, hie, hiw⟩ := u64_14 n
      have HT : Hid (textOf m n S true = wd i) := by show _ = _; simp [textOf, e2, hie]
      clear hie
      go_enter Ybaf.func4, Ybaf.ntmps4
      go_wp2_with fail
      refine (words_any _).mono ?_
      rintro e w' ⟨rfl, hb⟩
      have hb1 : Below w.heap.size w w' := ((Below.refl w.heap.size w).alloc (Nat.le_refl _) (Obj.cells #[.int .u8 m, .int .i64 n, .string S] 23)).trans (hb.mono (by simp))
      have hx := heap_alloc_new w (Obj.cells #[.int .u8 m, .int .i64 n, .string S] 23)
      have hlt : w.heap.size < (w.alloc (Obj.cells #[.int .u8 m, .int .i64 n, .string S] 23)).heap.size := by simp
      have hblk : (w'.alloc (.cells wordsA 43)).heap[w.heap.size]? = (w.alloc (Obj.cells #[.int .u8 m, .int .i64 n, .string S] 23)).heap[w.heap.size]? := by rw [Below.heap_alloc _ _ _ (show w.heap.size < _ by have := hb.size; omega)]; exact hb.block _ hlt
      have c1 : (w'.alloc (.cells wordsA 43)).cell? ⟨w.heap.size, 1, none⟩ = some (.int .i64 n) := by
        rw [World.cell?_of_block (w := w.alloc (Obj.cells #[.int .u8 m, .int .i64 n, .string S] 23)) hblk, cell_of_row _ _ _ _ _ _ hx]; rfl
      have c2 : (w'.alloc (.cells wordsA 43)).cell? ⟨w.heap.size, 2, none⟩ = some (.string S) := by
        rw [World.cell?_of_block (w := w.alloc (Obj.cells #[.int .u8 m, .int .i64 n, .string S] 23)) hblk, cell_of_row _ _ _ _ _ _ hx]; rfl
      have c3 : (w'.alloc (.cells wordsA 43)).cell? ⟨w'.heap.size, i, none⟩ = some (.string (wd i)) := words_cell (heap_alloc_new w' _) hi
      have HB := hide (hb1.alloc hb1.size (.cells wordsA 43))
      clear hb hb1 hx hlt hblk
      go_wp2_with (refine at_op (.store 43 (.tmp 6) (.tmp 21)) rfl ?_; refine wpList_store_new rfl 43 _ _ rfl w' _ wordsA rfl rfl (by kernel_rfl) rfl (by kernel_rfl) one43 ?_)
      obtain ⟨B, hB⟩ : ∃ B, w.heap.size = B := ⟨_, rfl⟩
      obtain ⟨B2, hB2⟩ : ∃ B2, w'.heap.size = B2 := ⟨_, rfl⟩
      rw [hB] at c1 c2 ⊢
      rw [hB2] at c3 ⊢
      generalize w'.alloc (.cells wordsA 43) = W0 at *
      have hi' : (i : Int) < 14 := by omega
      go_region_held3 (fun w' => w'.cell? ⟨B, 1, none⟩ = some (.int .i64 n) ∧ w'.cell? ⟨B, 2, none⟩ = some (.string S) ∧ w'.cell? ⟨B2, i, none⟩ = some (.string (wd i))) (go_keep) (fail)
      clear c1 c2 c3
      go_wp2_with fail
      go_ret2
      refine valsPost_mk e0 (.slice (some ⟨W0.heap.size, 0, none⟩) 2 2) ⟨_, 2, 2, rfl, by omega, .inr ⟨by omega, W0.heap.size, rfl, ?_⟩⟩ ((HB.out.alloc HB.out.size _).drew)
      show (W0.alloc _).cell? _ = _
      rw [HT.out, cell_of_row _ _ _ _ _ _ (heap_alloc_new W0 _)]; rfl
  · have e3 : m % 4 = 3 := by omega
    go_enter Ybaf.func4, Ybaf.ntmps4
    go_wp2_with fail
    go_ret2
    refine valsPost_mk e0 (.slice (some ⟨w.heap.size + 1, 0, none⟩) 1 1) ⟨_, 1, 1, rfl, by omega, .inr ⟨by omega, w.heap.size + 1, rfl, ?_⟩⟩ (((Below.refl _ _).alloc (Nat.le_refl _) _).alloc (by simp) _)
    have : textOf m n S flag = S := by simp [textOf, e3]
    rw [this, cell_of_row _ _ _ _ _ _ (heap_at _ _ (by simp))]; rfl
end Go.Proofs.YbulkednkFmt
