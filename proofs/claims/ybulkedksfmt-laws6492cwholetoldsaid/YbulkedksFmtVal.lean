import Derived.Test.YbulkedksFmtFol
import Derived.BigQuiet
import Derived.Deep.WholeRow
import Derived.Deep.QuietTactic
namespace Go.Proofs.YbulkedksFmt
open Go.RowKit Go.Extern.Stop Go.Stop Go.Extern
set_option linter.unusedVariables false

/-- The manifest's cells. -/
structure ManAt (w : World) (M : Nat) (id : ByteArray) (size cs : Int) (sv : Value) : Prop where
  c0 : w.cell? ⟨M, 0, none⟩ = some (.string id)
  c1 : w.cell? ⟨M, 1, none⟩ = some (.int .i64 size)
  c2 : w.cell? ⟨M, 2, none⟩ = some (.int .i64 cs)
  c3 : w.cell? ⟨M, 3, none⟩ = some sv

/-- The chunks in memory. -/
def CksAt (w : World) (a : Option Addr) (n : Nat) (l : List Ck) : Prop :=
  n = l.length ∧ (∀ c ∈ l, c.hs.length = 32) ∧ ((a = none ∧ l = []) ∨ ∃ g, a = some ⟨g, 0, none⟩ ∧ g < w.heap.size ∧ ∀ k (h : k < l.length), w.rangeAt g (k * 34) l[k].cells)

def stepC (size cs x : Int) (c : Ck) : Option Int :=
  if folB c x then
    if 0 < cs then (if c.len = min cs (wrap64 (size - x)) then some (wrap64 (x + c.len)) else none)
    else if 65536 < c.len then none else some (wrap64 (x + c.len))
  else none

def runC (size cs : Int) : Int → List Ck → Option Int
  | x, [] => some x
  | x, c :: l => match stepC size cs x c with
    | none => none
    | some y => runC size cs y l

/-- The walk's two tests on the number of chunks. -/
def oddB (size cs : Int) : Bool := wrap64 (wrap64 (size.tdiv cs) * cs) != size
def cntB (size cs : Int) (n : Nat) : Bool :=
  if 0 < cs then (if oddB size cs then !((n : Int) != wrap64 (wrap64 (size.tdiv cs) + 1)) else !((n : Int) != wrap64 (size.tdiv cs))) else true

def validB (id : ByteArray) (size cs : Int) (l : List Ck) : Bool := sumB id && decide (0 ≤ size) && decide (0 ≤ cs) && cntB size cs l.length && (runC size cs 0 l == some size)

/-- A guard: this operation and no other. -/
theorem at_op {P : Program} {ops : Array Oper} {rest : List Oper} {op : Oper} {a : Act} {w : World} {Q : Exit → Act → World → Prop} (o : Op) (_ : op.op = o) (k : wpList P ops Q (op :: rest) a w) : wpList P ops Q (op :: rest) a w := k

/-- A whole value stored into the block that was just made for it. -/
theorem wpList_store_new {P : Program} {ops : Array Oper} {rest : List Oper} {op : Oper} {a : Act} {W : World} {Q : Exit → Act → World → Prop} (hgd : op.guard = none) (ty : TypeId) (x y : Operand) (ho : op.op = .store ty x y)
    (w : World) (c c' : Array Value) (hx : a.eval x = .pointer (some ⟨w.heap.size, 0, none⟩)) (hy : a.eval y = .agg c')
    (hi : (P.info? ty).map (·.size) = some c'.size) (hW : W = w.alloc (.cells c ty)) (hc : c.size = c'.size) (h1 : c'.all (·.oneCell') = true)
    (h : wpList P ops Q rest (a.put op.dst undef) (w.alloc (.cells c' ty))) : wpList P ops Q (op :: rest) a W :=
  wpList_plain hgd fun K hK => by
    subst hW
    unfold Oper.wp execOp
    simp only [ho, hx, hy, run_storeAt_new w ty c c' hi hc h1, Sem.run_bind, Result.andThen_ok, Sem.run_pure]
    exact hK _ _ h

/-- A load of a whole value out of the middle of a block, the operation guarded, its guard met. -/
theorem wpList_load_midg {P : Program} {ops : Array Oper} {rest : List Oper} {op : Oper} {a : Act} {w : World} {Q : Exit → Act → World → Prop} (ty : TypeId) (x : Operand) (ho : op.op = .load ty x) (hw : Region.wanted op (yielded ops a.tmps) = true)
    (b o : Nat) (hx : a.eval x = .pointer (some ⟨b, o, none⟩)) (cs : List Value) (d : TypeDesc) (hc : w.rangeAt b o cs)
    (hu : P.underlying ty = some d) (hd : d.isRow = true) (hi : (P.info? ty).map (·.size) = some cs.length)
    (h : wpList P ops Q rest (a.put op.dst (.agg cs.toArray)) w) : wpList P ops Q (op :: rest) a w := by
  simp only [wpList]
  rw [if_pos hw]
  exact .inl (wp_load_mid ty x ho b o hx cs d hc hu hd hi h)

theorem runC_drop {size cs x : Int} {l : List Ck} {k : Nat} (hk : k < l.length) : runC size cs x (l.drop k) = match stepC size cs x l[k] with
    | none => none
    | some y => runC size cs y (l.drop (k + 1)) := by
  rw [List.drop_eq_getElem_cons hk, runC]

theorem valid_no {id : ByteArray} {size cs x : Int} {l : List Ck} {k : Nat} (hk : k < l.length) (hrun : runC size cs 0 l = runC size cs x (l.drop k)) (h : stepC size cs x l[k] = none) : validB id size cs l = false := by
  rw [runC_drop hk, h] at hrun
  simp [validB, hrun]

theorem run_on {size cs x y : Int} {l : List Ck} {k : Nat} (hk : k < l.length) (hrun : runC size cs 0 l = runC size cs x (l.drop k)) (h : stepC size cs x l[k] = some y) : runC size cs 0 l = runC size cs y (l.drop (k + 1)) := by
  rw [runC_drop hk, h] at hrun
  exact hrun

theorem Ck.one (c : Ck) : c.cells.toArray.all (·.oneCell') = true := by
  apply all_oneCell_toArray
  intro v hv
  simp [Ck.cells] at hv
  rcases hv with rfl | rfl | ⟨u, _, rfl⟩ <;> rfl

theorem Ybaf.size32 : (Ybaf.prog.info? 32).map (·.size) = some 34 := by kernel_rfl

theorem step_no1 {size cs x : Int} {c : Ck} (h : (c.off != x) = true) : stepC size cs x c = none := by
  have : (c.off == x) = false := by simpa using h
  simp [stepC, folB, this]
theorem step_no2 {size cs x : Int} {c : Ck} (h : c.len < 1) : stepC size cs x c = none := by
  have : ¬ 1 ≤ c.len := by omega
  simp [stepC, folB, this]
theorem step_no3 {size cs x : Int} {c : Ck} (h : zeroB c.hs = true) : stepC size cs x c = none := by simp [stepC, folB, h]
theorem fol_yes {x : Int} {c : Ck} (h1 : (c.off != x) = false) (h2 : 1 ≤ c.len) (h3 : zeroB c.hs = false) : folB c x = true := by
  have : (c.off == x) = true := by simpa using h1
  simp [folB, this, h2, h3]
theorem step_zero_no {size x : Int} {c : Ck} (h : 65536 < c.len) : stepC size 0 x c = none := by simp [stepC, h]
theorem step_zero_yes {size x : Int} {c : Ck} (h1 : (c.off != x) = false) (h2 : 1 ≤ c.len) (h3 : zeroB c.hs = false) (h4 : c.len ≤ 65536) : stepC size 0 x c = some (wrap64 (x + c.len)) := by
  have : ¬ 65536 < c.len := by omega
  simp [stepC, fol_yes h1 h2 h3, this]
theorem step_pos_no {size cs x : Int} {c : Ck} (hc : 0 < cs) (h : c.len ≠ min cs (wrap64 (size - x))) : stepC size cs x c = none := by simp [stepC, hc, h]
theorem step_pos_yes {size cs x : Int} {c : Ck} (hc : 0 < cs) (h1 : (c.off != x) = false) (h2 : 1 ≤ c.len) (h3 : zeroB c.hs = false) (h4 : c.len = min cs (wrap64 (size - x))) : stepC size cs x c = some (wrap64 (x + c.len)) := by
  simp only [stepC, fol_yes h1 h2 h3, if_true, if_pos hc, if_pos h4]

theorem step_lo_no {size cs x : Int} {c : Ck} (hc : 0 < cs) (h4 : wrap64 (size - x) < cs) (h : (c.len != wrap64 (size - x)) = true) : stepC size cs x c = none :=
  step_pos_no hc (by rw [Int.min_eq_right (by omega)]; simpa using h)
theorem step_hi_no {size cs x : Int} {c : Ck} (hc : 0 < cs) (h4 : ¬ wrap64 (size - x) < cs) (h : (c.len != cs) = true) : stepC size cs x c = none :=
  step_pos_no hc (by rw [Int.min_eq_left (by omega)]; simpa using h)
theorem step_lo_yes {size cs x : Int} {c : Ck} (hc : 0 < cs) (h1 : (c.off != x) = false) (h2 : 1 ≤ c.len) (h3 : zeroB c.hs = false) (h4 : wrap64 (size - x) < cs) (h : (c.len != wrap64 (size - x)) = false) : stepC size cs x c = some (wrap64 (x + c.len)) :=
  step_pos_yes hc h1 h2 h3 (by rw [Int.min_eq_right (by omega)]; simpa using h)
theorem step_hi_yes {size cs x : Int} {c : Ck} (hc : 0 < cs) (h1 : (c.off != x) = false) (h2 : 1 ≤ c.len) (h3 : zeroB c.hs = false) (h4 : ¬ wrap64 (size - x) < cs) (h : (c.len != cs) = false) : stepC size cs x c = some (wrap64 (x + c.len)) :=
  step_pos_yes hc h1 h2 h3 (by rw [Int.min_eq_left (by omega)]; simpa using h)

theorem bool_or (b : Bool) : b = true ∨ b = false := by cases b <;> simp

theorem valid_end {id : ByteArray} {size cs x : Int} {l : List Ck} {k : Nat} (hk : l.length ≤ k) (hrun : runC size cs 0 l = runC size cs x (l.drop k)) (h1 : sumB id = true) (h2 : 0 ≤ size) (h3 : 0 ≤ cs) (h4 : cntB size cs l.length = true) : validB id size cs l = (x == size) := by
  rw [List.drop_of_length_le hk, runC] at hrun
  simp [validB, hrun, h1, h2, h3, h4]

structure CkFacts (c : Ck) (wr : World) (CL : List Value) : Prop where
  one : CL.toArray.all (·.oneCell') = true
  l34 : CL.toArray.size = 34
  z : (Ybaf.prog.info? 32).map (·.size) = some CL.length
  z' : (Ybaf.prog.info? 32).map (·.size) = some CL.toArray.size
  h0 : (wr.alloc (.cells CL.toArray 32)).cell? ⟨wr.heap.size, 0, none⟩ = some (.int .i64 c.off)
  h1 : (wr.alloc (.cells CL.toArray 32)).cell? ⟨wr.heap.size, 1, none⟩ = some (.int .i64 c.len)
  rg : (wr.alloc (.cells CL.toArray 32)).rangeAt wr.heap.size 2 (c.hs.map cell)
  z30 : (Ybaf.prog.info? 30).map (·.size) = some (c.hs.map cell).length
  eq : ∀ w, (Op.equalIn 10000 30 (.agg (c.hs.map cell).toArray) (.agg #[.int .u8 0, .int .u8 0, .int .u8 0, .int .u8 0, .int .u8 0, .int .u8 0, .int .u8 0, .int .u8 0, .int .u8 0, .int .u8 0, .int .u8 0, .int .u8 0, .int .u8 0, .int .u8 0, .int .u8 0, .int .u8 0, .int .u8 0, .int .u8 0, .int .u8 0, .int .u8 0, .int .u8 0, .int .u8 0, .int .u8 0, .int .u8 0, .int .u8 0, .int .u8 0, .int .u8 0, .int .u8 0, .int .u8 0, .int .u8 0, .int .u8 0, .int .u8 0])).run Ybaf.prog w = .ok (zeroB c.hs) w

theorem ck_facts (c : Ck) (hl : c.hs.length = 32) (wr : World) : CkFacts c wr c.cells where
  one := c.one
  l34 := by simp [Ck.cells, hl]
  z := by rw [Ybaf.size32]; simp [Ck.cells, hl]
  z' := by rw [Ybaf.size32]; simp [Ck.cells, hl]
  h0 := by simp [Ck.cells]
  h1 := by simp [Ck.cells]
  rg := range_ck c wr 32
  z30 := by rw [Ybaf.size30, List.length_map, hl]
  eq := fun w => eql30 c.hs hl w

theorem valid_easy (M : Nat) (id : ByteArray) (size cs : Int) (sv : Value) (l : List Ck) (w : World) (hid : id.size ≤ maxLen) (hM : ManAt w M id size cs sv) (hno : sumB id = false ∨ size < 0 ∨ cs < 0) :
    Calls Ybaf.prog 5 #[.pointer (some ⟨M, 0, none⟩)] w fun e w1 => e = .returned (.bool (validB id size cs l)) ∧ Below w.heap.size w w1 := by
  obtain ⟨c0, c1, c2, c3⟩ := hM
  cases hsum : sumB id
  · have HP : Hid (validB id size cs l = false) := by show _ = _; simp [validB, hsum]
    go_enter Ybaf.func5, Ybaf.ntmps5
    go_wp2_with (go_at_call 7; refine (issum_any _ _ hid).mono ?_; rintro e w' ⟨rfl, hw⟩; obtain rfl := hw.symm)
    go_ret
    exact ⟨ret_bool HP.out.symm, Below.refl _ _⟩
  have hno : size < 0 ∨ cs < 0 := by simpa [hsum] using hno
  have HP : Hid (validB id size cs l = false) := by show _ = _; simp [validB]; omega
  rcases hno with h1 | h2
  · go_enter Ybaf.func5, Ybaf.ntmps5
    go_wp2_with (go_at_call 7; refine (issum_any _ _ hid).mono ?_; rintro e w' ⟨rfl, hw⟩; obtain rfl := hw.symm)
    go_ret
    exact ⟨ret_bool HP.out.symm, Below.refl _ _⟩
  by_cases h1 : size < 0
  all_goals
    go_enter Ybaf.func5, Ybaf.ntmps5
    go_wp2_with (go_at_call 7; refine (issum_any _ _ hid).mono ?_; rintro e w' ⟨rfl, hw⟩; obtain rfl := hw.symm)
    go_ret
    exact ⟨ret_bool HP.out.symm, Below.refl _ _⟩

set_option maxRecDepth 100000 in
set_option maxHeartbeats 4000000 in
theorem valid_zero (M : Nat) (id : ByteArray) (size cs : Int) (a : Option Addr) (n : Nat) (l : List Ck) (w : World) (hid : id.size ≤ maxLen) (hM : ManAt w M id size cs (.slice a n n)) (hC : CksAt w a n l) (hn : n ≤ 1048576) (hMw : M < w.heap.size)
    (hsum : sumB id = true) (p1 : 0 ≤ size) (p3 : cs = 0) :
    Calls Ybaf.prog 5 #[.pointer (some ⟨M, 0, none⟩)] w fun e w1 => e = .returned (.bool (validB id size cs l)) ∧ Below w.heap.size w w1 := by
  obtain ⟨c0, c1, c2, c3⟩ := hM
  obtain ⟨hnl, h32, hC⟩ := hC
  subst p3
  go_enter Ybaf.func5, Ybaf.ntmps5
  go_wp2_with (go_at_call 7; refine (issum_any _ _ hid).mono ?_; rintro e w' ⟨rfl, hw⟩; obtain rfl := hw.symm)
  go_loopw [4, 5] (fun at_ i wr => ∃ (k : Nat) (x : Int), k ≤ n ∧ i = .int .i64 k ∧ at_ = .int .i64 x ∧ Hid (runC size 0 0 l = runC size 0 x (l.drop k)) ∧ Below w.heap.size w wr) (fun _ i _ => n - (intOf i).toNat)
  case atStart => exact ⟨0, 0, by omega, rfl, rfl, by simp [Hid], Below.refl _ _⟩
  case round =>
    obtain ⟨k, x, hk, rfl, rfl, hrun, hbel⟩ := hrel
    have d1 := (hbel.cell (p := ⟨M, 1, none⟩) hMw).trans c1
    have d2 := (hbel.cell (p := ⟨M, 2, none⟩) hMw).trans c2
    have d3 := (hbel.cell (p := ⟨M, 3, none⟩) hMw).trans c3
    by_cases hlt : k < n
    · rcases hC with ⟨_, rfl⟩ | ⟨g, rfl, hg, hC⟩
      · simp at hnl; omega
      have hkl : k < l.length := by omega
      have hr := hC k hkl
      have hr' : wr.rangeAt g (k * 34) l[k].cells := fun j v hv => (hbel.cell (p := ⟨g, k * 34 + j, none⟩) hg).trans (hr j v hv)
      obtain ⟨ho, hl34, hz, hz', h0, h1, hrg, hz30, he⟩ := ck_facts l[k] (h32 _ (List.getElem_mem hkl)) wr
      have HN : Hid (stepC size 0 x l[k] = none → validB id size 0 l = false) := valid_no hkl hrun.out
      have HY : Hid (∀ y, stepC size 0 x l[k] = some y → runC size 0 0 l = runC size 0 y (l.drop (k + 1))) := fun y => run_on hkl hrun.out
      have HB : Hid (Below w.heap.size w (wr.alloc (.cells l[k].cells.toArray 32))) := hbel.alloc hbel.size _
      clear hr hC c0 c1 c2 c3 h32 hrun
      generalize l[k].cells = CL at *
      generalize l[k] = c at *
      have hMr : M < wr.heap.size := Nat.lt_of_lt_of_le hMw hbel.size
      rcases (show (c.off != x) = true ∨ (c.off != x) = false by cases (c.off != x) <;> simp) with e1 | e1
      · have HV := hide (HN.out (step_no1 e1))
        clear HN HY
        go_wp2_with (first | (refine at_op (.load 32 _) rfl ?_; refine wpList_load_mid rfl 32 _ rfl g (k * 34) rfl _ _ hr' Ybaf.underlying32 rfl hz ?_) | (refine at_op (.store 32 _ _) rfl ?_; refine wpList_store_new rfl 32 _ _ rfl wr _ _ rfl rfl hz' rfl (by rw [hl34]; rfl) ho ?_))
        go_ret
        exact ⟨ret_bool HV.out.symm, HB.out⟩
      by_cases e2 : c.len < 1
      · have HV := hide (HN.out (step_no2 e2))
        clear HN HY
        go_wp2_with (first | (refine at_op (.load 32 _) rfl ?_; refine wpList_load_mid rfl 32 _ rfl g (k * 34) rfl _ _ hr' Ybaf.underlying32 rfl hz ?_) | (refine at_op (.store 32 _ _) rfl ?_; refine wpList_store_new rfl 32 _ _ rfl wr _ _ rfl rfl hz' rfl (by rw [hl34]; rfl) ho ?_))
        go_ret
        exact ⟨ret_bool HV.out.symm, HB.out⟩
      have e2' : decide (c.len < 1) = false := by simpa using e2
      cases e3 : zeroB c.hs
      · rw [e3] at he
        by_cases e4 : 65536 < c.len
        · have HV := hide (HN.out (step_zero_no e4))
          clear HN HY
          go_wp2_with (first | (refine at_op (.load 32 _) rfl ?_; refine wpList_load_mid rfl 32 _ rfl g (k * 34) rfl _ _ hr' Ybaf.underlying32 rfl hz ?_) | (refine at_op (.store 32 _ _) rfl ?_; refine wpList_store_new rfl 32 _ _ rfl wr _ _ rfl rfl hz' rfl (by rw [hl34]; rfl) ho ?_) | (refine at_op (.load 30 _) rfl ?_; refine wpList_load_midg 30 _ rfl (by rfl) wr.heap.size 2 rfl _ _ hrg Ybaf.underlying30 rfl hz30 ?_))
          go_ret
          exact ⟨ret_bool HV.out.symm, HB.out⟩
        · have HV := hide (HY.out _ (step_zero_yes e1 (by omega) e3 (by omega)))
          clear HN HY e3
          go_wp2_with (first | (refine at_op (.load 32 _) rfl ?_; refine wpList_load_mid rfl 32 _ rfl g (k * 34) rfl _ _ hr' Ybaf.underlying32 rfl hz ?_) | (refine at_op (.store 32 _ _) rfl ?_; refine wpList_store_new rfl 32 _ _ rfl wr _ _ rfl rfl hz' rfl (by rw [hl34]; rfl) ho ?_) | (refine at_op (.load 30 _) rfl ?_; refine wpList_load_midg 30 _ rfl (by rfl) wr.heap.size 2 rfl _ _ hrg Ybaf.underlying30 rfl hz30 ?_))
          go_roundw
          case rel => exact ⟨k + 1, _, by omega, by go_num, rfl, HV, HB.out⟩
          case measure => simp [intOf]; omega
      · rw [e3] at he
        have HV := hide (HN.out (step_no3 e3))
        clear HN HY
        go_wp2_with (first | (refine at_op (.load 32 _) rfl ?_; refine wpList_load_mid rfl 32 _ rfl g (k * 34) rfl _ _ hr' Ybaf.underlying32 rfl hz ?_) | (refine at_op (.store 32 _ _) rfl ?_; refine wpList_store_new rfl 32 _ _ rfl wr _ _ rfl rfl hz' rfl (by rw [hl34]; rfl) ho ?_) | (refine at_op (.load 30 _) rfl ?_; refine wpList_load_midg 30 _ rfl (by rfl) wr.heap.size 2 rfl _ _ hrg Ybaf.underlying30 rfl hz30 ?_))
        go_ret
        exact ⟨ret_bool HV.out.symm, HB.out⟩
    · have HV := hide (valid_end (id := id) (cs := 0) (by omega : l.length ≤ k) hrun.out hsum p1 (by omega) (by simp [cntB]))
      go_wp2
      go_ret
      exact ⟨ret_bool HV.out.symm, hbel⟩
end Go.Proofs.YbulkedksFmt
