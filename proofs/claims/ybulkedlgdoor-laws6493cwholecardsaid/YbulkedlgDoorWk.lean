import Derived.Test.YbulkedlgDoorFx
import Derived.Laws.CopyOwn
namespace Go.Proofs.YbulkedlgDoor
open Go.RowKit
set_option linter.unusedVariables false

/-! ### a region walked from a frame that is a letter -/
theorem frame_gen {P : Program} {s : Code} {Q : Exit → Act → World → Prop} {w : World} {t : Array Value} {ds : List Deferred} (h : ∀ a : Act, a = ⟨t, ds⟩ → s.wp P Q a w) : s.wp P Q ⟨t, ds⟩ w := h _ rfl
/-- What the operations so far have put, the last first. -/
def putsL (a : Act) : List (Nat × Value) → Act
  | [] => a
  | p :: l => (putsL a l).put (some p.1) p.2
def lk : List (Nat × Value) → Nat → Option Value
  | [], _ => none
  | p :: l, i => cond (Nat.beq p.1 i) (some p.2) (lk l i)
def inB (n : Nat) : List (Nat × Value) → Bool
  | [] => true
  | p :: l => cond (Nat.ble (p.1 + 1) n) (inB n l) false
theorem put_ne {a : Act} {i j : Nat} {v : Value} (h : (i == j) = false) : (a.put (some i) v).tmps[j]? = a.tmps[j]? := by
  have h' : i ≠ j := by simpa using h
  simp only [Act.put]; rw [Array.getElem?_setIfInBounds_ne h']
theorem put_eq {a : Act} {i : Nat} {v : Value} (h : i < a.tmps.size) : (a.put (some i) v).tmps[i]? = some v := by
  simp only [Act.put]; rw [Array.getElem?_setIfInBounds_self_of_lt h]
theorem put_size {a : Act} {i : Nat} {v : Value} : (a.put (some i) v).tmps.size = a.tmps.size := by
  simp only [Act.put]; rw [Array.size_setIfInBounds]
theorem ev_of {a : Act} {i : Nat} {v : Value} (h : a.tmps[i]? = some v) : a.eval (.tmp i) = v := by
  simp only [Act.eval, Array.getD_eq_getD_getElem?, h, Option.getD_some]
theorem putsL_size {a : Act} : ∀ l, (putsL a l).tmps.size = a.tmps.size
  | [] => rfl
  | p :: l => by rw [putsL, put_size, putsL_size l]
theorem putsL_at {a : Act} {n : Nat} (hn : a.tmps.size = n) {i : Nat} {v : Value} : ∀ {l : List (Nat × Value)}, inB n l = true → lk l i = some v → (putsL a l).tmps[i]? = some v
  | [], _, h => by cases h
  | p :: l, hb, h => by
    have hb' : p.1 + 1 ≤ n ∧ inB n l = true := by
      unfold inB at hb
      cases hq : Nat.ble (p.1 + 1) n with
      | false => rw [hq] at hb; cases hb
      | true => rw [hq] at hb; exact ⟨Nat.le_of_ble_eq_true hq, hb⟩
    unfold lk at h
    cases hq : Nat.beq p.1 i with
    | true =>
      rw [hq] at h
      have e : p.1 = i := Nat.eq_of_beq_eq_true hq
      rw [putsL, ← e, put_eq (by rw [putsL_size, hn]; exact hb'.1)]
      exact h
    | false =>
      rw [hq] at h
      have e : p.1 ≠ i := Nat.ne_of_beq_eq_false hq
      rw [putsL, put_ne (by simpa using e)]
      exact putsL_at hn hb'.2 h
theorem putsL_out {a : Act} {i : Nat} {v : Value} (ha : a.tmps[i]? = some v) : ∀ {l : List (Nat × Value)}, lk l i = none → (putsL a l).tmps[i]? = some v
  | [], _ => ha
  | p :: l, h => by
    unfold lk at h
    cases hq : Nat.beq p.1 i with
    | true => rw [hq] at h; cases h
    | false =>
      rw [hq] at h
      have e : p.1 ≠ i := Nat.ne_of_beq_eq_false hq
      rw [putsL, put_ne (by simpa using e)]
      exact putsL_out ha h
/-- A row of values laid into a list from a place on. -/
def setR : List Value → Nat → List Value → List Value
  | [], _, _ => []
  | l, 0, [] => l
  | _ :: l, 0, v :: vs => v :: setR l 0 vs
  | x :: l, i + 1, vs => x :: setR l i vs
theorem setR_nil : ∀ (l : List Value) i, setR l i [] = l
  | [], _ => rfl
  | _ :: _, 0 => rfl
  | x :: l, i + 1 => by rw [setR, setR_nil l i]
theorem setR_put (v : Value) : ∀ (l : List Value) (i : Nat) (vs : List Value), setR l i (vs ++ [v]) = (setR l i vs).set (i + vs.length) v
  | [], _, _ => rfl
  | x :: l, 0, [] => by simp [setR, setR_nil]
  | x :: l, 0, u :: vs => by
    have := setR_put v l 0 vs
    rw [Nat.zero_add] at this
    simp only [List.cons_append, setR, Nat.zero_add, List.length_cons, List.set_cons_succ]
    rw [this]
  | x :: l, i + 1, vs => by
    rw [setR, setR, setR_put v l i vs, Nat.succ_add, List.set_cons_succ]
def rowD (i : Nat) : List (Nat × Value) → Bool
  | [] => true
  | p :: l => cond (Nat.beq p.1 (i + l.length)) (rowD i l) false
def valsU : List (Nat × Value) → List Value → List Value
  | [], acc => acc
  | p :: l, acc => valsU l (p.2 :: acc)
theorem valsU_eq : ∀ l acc, valsU l acc = valsU l [] ++ acc
  | [], _ => rfl
  | p :: l, acc => by rw [valsU, valsU_eq l (p.2 :: acc), valsU, valsU_eq l [p.2]]; simp
theorem valsU_len : ∀ l, (valsU l []).length = l.length
  | [] => rfl
  | p :: l => by rw [valsU, valsU_eq l [p.2], List.length_append, valsU_len l]; rfl
theorem putsL_row {L : List Value} {ds : List Deferred} {i : Nat} : ∀ {l : List (Nat × Value)}, rowD i l = true → putsL ⟨L.toArray, ds⟩ l = ⟨(setR L i (valsU l [])).toArray, ds⟩
  | [], _ => by rw [putsL, valsU, setR_nil]
  | p :: l, h => by
    unfold rowD at h
    cases hq : Nat.beq p.1 (i + l.length) with
    | false => rw [hq] at h; cases h
    | true =>
      rw [hq] at h
      have e : p.1 = i + l.length := Nat.eq_of_beq_eq_true hq
      rw [putsL, putsL_row h, valsU, valsU_eq l [p.2], setR_put, valsU_len, e]
      simp only [Act.put, List.setIfInBounds_toArray]
theorem putsL_end {K : Act → World → Prop} {a : Act} {L : List Value} {ds : List Deferred} (hA : a = ⟨L.toArray, ds⟩) {w : World} {l : List (Nat × Value)} (i : Nat) (hl : rowD i l = true) (h : K ⟨(setR L i (valsU l [])).toArray, ds⟩ w) : K (putsL a l) w := by
  subst hA; rw [putsL_row hl]; exact h
theorem want0 {o : Oper} {ops : Array Oper} {a : Act} (h : o.guard = none) : Region.wanted o (yielded ops a.tmps) = true := by simp [Region.wanted, h]
theorem want1 {o : Oper} {ops : Array Oper} {a : Act} {j d : Nat} (h : o.guard = some (j, false)) (hd : (ops[j]?).bind (·.dst) = some d) (hv : a.tmps[d]? = some (.bool false)) : Region.wanted o (yielded ops a.tmps) = true := by
  simp [Region.wanted, h, yielded, hd, hv]
theorem g_val {ops : Array Oper} {Q : Exit → Act → World → Prop} {a : Act} {w : World} {rest : List Oper} {o : Oper} {d : Nat} {v : Value} (hd : o.dst = some d) (hw : Region.wanted o (yielded ops a.tmps) = true)
    (hv : (execOp a.eval o).run Ybad.prog w = .ok (.value v) w) (h : wpList Ybad.prog ops Q rest (a.put (some d) v) w) : wpList Ybad.prog ops Q (o :: rest) a w :=
  wpList_step fun K hK => by rw [if_pos hw]; unfold Oper.wp; rw [hv, hd.symm] at *; exact hK _ _ h
theorem g_put {ops : Array Oper} {Q : Exit → Act → World → Prop} {a : Act} {l : List (Nat × Value)} {w : World} {rest : List Oper} {o : Oper} {d : Nat} {v : Value} (hd : o.dst = some d) (hw : Region.wanted o (yielded ops (putsL a l).tmps) = true)
    (hv : (execOp (putsL a l).eval o).run Ybad.prog w = .ok (.value v) w) (h : wpList Ybad.prog ops Q rest (putsL a ((d, v) :: l)) w) : wpList Ybad.prog ops Q (o :: rest) (putsL a l) w := g_val hd hw hv h
/-- A goal that no tactic looks into. -/
structure Veil (p : Prop) : Prop where
  un : p
theorem g_hid {ops : Array Oper} {Q : Exit → Act → World → Prop} {a : Act} {l : List (Nat × Value)} {w : World} {rest : List Oper} {o : Oper} {d : Nat} {v : Value} (hd : o.dst = some d) (hw : Region.wanted o (yielded ops (putsL a l).tmps) = true)
    (hv : (execOp (putsL a l).eval o).run Ybad.prog w = .ok (.value v) w) (h : Veil (wpList Ybad.prog ops Q rest (putsL a ((d, v) :: l)) w)) : Veil (wpList Ybad.prog ops Q (o :: rest) (putsL a l) w) := ⟨g_put hd hw hv h.un⟩
theorem g_start {ops : Array Oper} {Q : Exit → Act → World → Prop} {a : Act} {w : World} {l : List Oper} (h : Veil (wpList Ybad.prog ops Q l (putsL a []) w)) : wpList Ybad.prog ops Q l a w := h.un
theorem g_end {ops : Array Oper} {K : Act → World → Prop} {Q : Exit → Act → World → Prop} {a : Act} {L : List Value} {ds : List Deferred} (hA : a = ⟨L.toArray, ds⟩) {w : World} {l : List (Nat × Value)} (i : Nat) (hl : rowD i l = true) (h : K ⟨(setR L i (valsU l [])).toArray, ds⟩ w) : Veil (wpList Ybad.prog ops (Exit.then K Q) [] (putsL a l) w) := ⟨putsL_end (K := K) hA i hl h⟩
theorem g_first {ops : Array Oper} {Q : Exit → Act → World → Prop} {a : Act} {w : World} {l : List Oper} (h : wpList Ybad.prog ops Q l (putsL a []) w) : wpList Ybad.prog ops Q l a w := h
theorem ev_in {a : Act} {n : Nat} (hn : a.tmps.size = n) {x : Operand} {i : Nat} {v : Value} {l : List (Nat × Value)} (hx : x = .tmp i) (hb : inB n l = true) (h : lk l i = some v) : (putsL a l).eval x = v := by subst hx; exact ev_of (putsL_at hn hb h)
theorem ev_out {a : Act} {x : Operand} {i : Nat} {v : Value} {l : List (Nat × Value)} (ha : a.tmps[i]? = some v) (hx : x = .tmp i) (h : lk l i = none) : (putsL a l).eval x = v := by subst hx; exact ev_of (putsL_out ha h)
theorem ev_con {a : Act} {x : Operand} {v : Value} (hx : x = .const v) : a.eval x = v := by subst hx; rfl
section
variable {o : Oper} {ρ : Operand → Value} {w : World}
theorem x_move {x : Operand} {v : Value} (ho : o.op = .move x) (hx : ρ x = v) : (execOp ρ o).run Ybad.prog w = .ok (.value v) w := by
  unfold execOp; simp only [ho, hx, Sem.run_pure]
theorem x_nil {x : Operand} {p : Addr} (ho : o.op = .nilCheck x) (hx : ρ x = .pointer (some p)) : (execOp ρ o).run Ybad.prog w = .ok (.value (.pointer (some p))) w := by
  unfold execOp; simp only [ho, hx, Sem.run_pure]
theorem x_pick {c x y : Operand} (ho : o.op = .pick c x y) (hc : ρ c = .bool false) {v : Value} (hy : ρ y = v) : (execOp ρ o).run Ybad.prog w = .ok (.value v) w := by
  unfold execOp; simp [ho, hc, hy, asBool]
theorem fieldAt_of {s : TypeId} {fs : Array Field} (hu : Ybad.prog.underlying s = some (.struct fs)) (f : Nat) (fd : Field) (hf : fs[f]? = some fd) (n : Nat) (hs : (Ybad.prog.info? fd.type).map (·.size) = some (n + 1)) (L : Nat) (w : World) : (Instr.fieldAt s (.pointer (some ⟨L, 0, none⟩)) f).run Ybad.prog w = .ok (.pointer (some ⟨L, fd.offset, none⟩)) w := by
  cases hq : Ybad.prog.info? fd.type with
  | none => simp [hq] at hs
  | some i =>
    have hs' : i.size = n + 1 := by simpa [hq] using hs
    simp [Instr.fieldAt, Instr.sureAddr, fieldPlace, go_sem, run_underlying hu, hf, Addr.add, sizeOf, typeInfo, hq, hs']
    intro h0; rw [h0]
theorem x_field {s : TypeId} {x : Operand} {f L : Nat} (ho : o.op = .fieldAddr s x f) (hx : ρ x = .pointer (some ⟨L, 0, none⟩)) {fs : Array Field} (hu : Ybad.prog.underlying s = some (.struct fs)) {fd : Field} (hf : fs[f]? = some fd) {n : Nat} (hs : (Ybad.prog.info? fd.type).map (·.size) = some (n + 1)) {k : Nat} (hk : fd.offset = k) : (execOp ρ o).run Ybad.prog w = .ok (.value (.pointer (some ⟨L, k, none⟩))) w := by
  subst hk
  unfold execOp; simp only [ho, hx, Sem.run_bind, fieldAt_of hu f fd hf n hs L w, Result.andThen_ok, Sem.run_pure]
theorem x_fieldR {s : TypeId} {x : Operand} {f : Nat} {u v : Value} (ho : o.op = .fieldAddr s x f) (hx : ρ x = u) (hr : (Instr.fieldAt s u f).run Ybad.prog w = .ok v w) : (execOp ρ o).run Ybad.prog w = .ok (.value v) w := by
  unfold execOp; simp only [ho, hx, Sem.run_bind, hr, Result.andThen_ok, Sem.run_pure]
theorem x_load1 {t : TypeId} {x : Operand} {p : Addr} (ho : o.op = .load t x) (hx : ρ x = .pointer (some p)) {d : TypeDesc} (hu : Ybad.prog.underlying t = some d) (hd : d.isRow = false) {v : Value} (hc : w.cell? p = some v) : (execOp ρ o).run Ybad.prog w = .ok (.value v) w := by
  have hagg : (isAgg t).run Ybad.prog w = .ok false w := by
    unfold isAgg
    rw [Sem.run_bind, run_underlying hu w]
    cases d <;> simp_all [TypeDesc.isRow]
  unfold execOp; simp [ho, hx, Instr.loadAt, Instr.sureAddr, loadVar, hagg, hc]
theorem x_load {t : TypeId} {x : Operand} {b i : Nat} (ho : o.op = .load t x) (hx : ρ x = .pointer (some ⟨b, i, none⟩)) {cs : Array Value} {d : TypeDesc} (hc : w.rangeAt b i cs.toList) (hu : Ybad.prog.underlying t = some d) (hd : d.isRow = true) (hi : (Ybad.prog.info? t).map (·.size) = some cs.toList.length) : (execOp ρ o).run Ybad.prog w = .ok (.value (.agg cs)) w := by
  unfold execOp
  simp only [ho, hx, Instr.loadAt, Instr.sureAddr, Sem.run_bind, Sem.run_pure, Result.andThen_ok, run_loadVar_mid w b i t cs.toList d hc hu hd hi, Array.toArray_toList]
theorem x_build0 {t : TypeId} (ho : o.op = .build t #[]) {cells : Array Value} (hrun : ∀ w, (Instr.build t #[]).run Ybad.prog w = .ok (.agg cells) w) : (execOp ρ o).run Ybad.prog w = .ok (.value (.agg cells)) w := by
  have e : ((#[] : Array (Nat × Operand)).map fun (i, x) => (i, ρ x)) = #[] := by simp
  unfold execOp; simp only [ho, Sem.run_bind]; rw [e, hrun]; rfl
theorem x_neq {t r : TypeId} {x y : Operand} {u v : Value} (ho : o.op = .binOp .neq t x y r) (hx : ρ x = u) (hy : ρ y = v) (hq : (eqGuard .neq t x y u v).run Ybad.prog w = .ok () w) (hb : (binOp .neq t u v).run Ybad.prog w = .ok (.bool false) w) : (execOp ρ o).run Ybad.prog w = .ok (.value (.bool false)) w := by
  unfold execOp; simp only [ho, hx, hy, Sem.run_bind, hq, hb, Result.andThen_ok, Sem.run_pure]
end
theorem neqI (t : TypeId) (k : IntKind) (x : Int) (w : World) : (binOp .neq t (.int k x) (.int k x)).run Ybad.prog w = .ok (.bool false) w := by
  simp [binOp, go_sem]
theorem guI (t : TypeId) (k : IntKind) (x y : Operand) (u : Int) (w : World) : (eqGuard .neq t x y (.int k u) (.int k u)).run Ybad.prog w = .ok () w := by
  simp [eqGuard, go_sem]
theorem guS (t : TypeId) (x y : Operand) (w : World) : (eqGuard .neq t x y (.slice none 0 0) (.slice none 0 0)).run Ybad.prog w = .ok () w := by
  simp [eqGuard, go_sem]
theorem fieldAt_at {s : TypeId} {fs : Array Field} (hu : Ybad.prog.underlying s = some (.struct fs)) (f : Nat) (fd : Field) (hf : fs[f]? = some fd) (n : Nat) (hs : (Ybad.prog.info? fd.type).map (·.size) = some (n + 1)) (k : Nat) (hk : fd.offset = k) (L i : Nat) (w : World) : (Instr.fieldAt s (.pointer (some ⟨L, i, none⟩)) f).run Ybad.prog w = .ok (.pointer (some ⟨L, i + k, none⟩)) w := by
  subst hk
  cases hq : Ybad.prog.info? fd.type with
  | none => simp [hq] at hs
  | some i =>
    have hs' : i.size = n + 1 := by simpa [hq] using hs
    simp [Instr.fieldAt, Instr.sureAddr, fieldPlace, go_sem, run_underlying hu, hf, Addr.add, sizeOf, typeInfo, hq, hs']
    try (intro h0; rw [h0])
theorem x_len {o : Oper} {ρ : Operand → Value} {w : World} {x : Operand} {t e : TypeId} {a : Option Addr} {n c : Nat} (ho : o.op = .call { callee := .builtin .len, args := #[x], argTypes := #[t] }) (hu : Ybad.prog.underlying t = some (.slice e)) (hx : ρ x = .slice a n c) : (execOp ρ o).run Ybad.prog w = .ok (.value (.int .i64 n)) w := by
  unfold execOp
  simp [ho, hx, resolve, invoke, go_sem, run_underlying hu, Builtin.len_]
theorem x_index {o : Oper} {ρ : Operand → Value} {w : World} {x y : Operand} {t e : TypeId} {b off n c i k : Nat} (ho : o.op = .indexAddr t x y) (hx : ρ x = .slice (some ⟨b, off, none⟩) n c) (hy : ρ y = .int .i64 i) (hu : Ybad.prog.underlying t = some (.slice e)) (hs : (Ybad.prog.info? e).map (·.size) = some (k + 1)) (hi : i < n) : (execOp ρ o).run Ybad.prog w = .ok (.value (.pointer (some ⟨b, off + i * (k + 1), none⟩))) w := by
  cases hq : Ybad.prog.info? e with
  | none => simp [hq] at hs
  | some ti =>
    have hs' : ti.size = k + 1 := by simpa [hq] using hs
    unfold execOp
    simp [ho, hx, hy, Instr.indexAt, go_sem, run_underlying hu, Addr.add, sizeOf, typeInfo, hq, hs']
    rw [if_pos hi]
    by_cases h0 : i * (k + 1) = 0
    · rw [if_pos h0, h0]; rfl
    · rw [if_neg h0]
theorem x_run1 {o : Oper} {ρ : Operand → Value} {w : World} {s d : TypeId} {x : Operand} {u v : Value} (ho : o.op = .convert s d x) (hx : ρ x = u) (hr : (convert s d u).run Ybad.prog w = .ok v w) : (execOp ρ o).run Ybad.prog w = .ok (.value v) w := by
  unfold execOp; simp only [ho, hx, Sem.run_bind, hr, Result.andThen_ok, Sem.run_pure]
theorem x_bin {o : Oper} {ρ : Operand → Value} {w : World} {p : BinOp} {t r : TypeId} {x y : Operand} {u v z : Value} (ho : o.op = .binOp p t x y r) (hx : ρ x = u) (hy : ρ y = v) (hq : (eqGuard p t x y u v).run Ybad.prog w = .ok () w) (hb : (binOp p t u v).run Ybad.prog w = .ok z w) : (execOp ρ o).run Ybad.prog w = .ok (.value z) w := by
  unfold execOp; simp only [ho, hx, hy, Sem.run_bind, hq, hb, Result.andThen_ok, Sem.run_pure]
theorem x_indexR {o : Oper} {ρ : Operand → Value} {w : World} {t : TypeId} {x y : Operand} {u v z : Value} (ho : o.op = .indexAddr t x y) (hx : ρ x = u) (hy : ρ y = v) (hr : (Instr.indexAt t u v).run Ybad.prog w = .ok z w) : (execOp ρ o).run Ybad.prog w = .ok (.value z) w := by
  unfold execOp; simp only [ho, hx, hy, Sem.run_bind, hr, Result.andThen_ok, Sem.run_pure]
theorem x_build3 {o : Oper} {ρ : Operand → Value} {w : World} {t : TypeId} {i j k : Nat} {x y z : Operand} {u v q : Value} (ho : o.op = .build t #[(i, x), (j, y), (k, z)]) (hx : ρ x = u) (hy : ρ y = v) (hz : ρ z = q) {cells : Array Value} (hrun : (Instr.build t #[(i, u), (j, v), (k, q)]).run Ybad.prog w = .ok (.agg cells) w) : (execOp ρ o).run Ybad.prog w = .ok (.value (.agg cells)) w := by
  have e : ((#[(i, x), (j, y), (k, z)] : Array (Nat × Operand)).map fun (i, x) => (i, ρ x)) = #[(i, u), (j, v), (k, q)] := by simp [hx, hy, hz]
  unfold execOp; simp only [ho, Sem.run_bind]; rw [e, hrun]; rfl
theorem cv34 (x : Int) (h : -128 ≤ x ∧ x ≤ 127) (w : World) : (convert 34 3 (.int .i8 x)).run Ybad.prog w = .ok (.int .i64 x) w := by
  have e : IntKind.i64.wrap x = x := by rw [IntKind.wrap_i64]; omega
  simp [convert, go_sem, run_underlying Ybad.underlying34, run_underlying Ybad.underlying3, e]
theorem cv5 (x : Int) (h : 0 ≤ x ∧ x ≤ 255) (w : World) : (convert 5 3 (.int .u8 x)).run Ybad.prog w = .ok (.int .i64 x) w := by
  have e : IntKind.i64.wrap x = x := by rw [IntKind.wrap_i64]; omega
  simp [convert, go_sem, run_underlying Ybad.underlying5, run_underlying Ybad.underlying3, e]
theorem rm3 (x : Int) (h : 0 ≤ x ∧ x ≤ 255) (p : Nat) (hp : x % 3 = p) (w : World) : (binOp .rem 3 (.int .i64 x) (.int .i64 3)).run Ybad.prog w = .ok (.int .i64 p) w := by
  have e : x.tmod 3 = p := by rw [Int.tmod_eq_emod_of_nonneg h.1]; exact hp
  simp [binOp, go_sem, e]
theorem gu3 (x y : Operand) (u v : Value) (w : World) : (eqGuard .rem 3 x y u v).run Ybad.prog w = .ok () w := by
  simp [eqGuard, go_sem]
theorem ix31 (pb p : Nat) (h : p < 3) (w : World) : (Instr.indexAt 31 (.pointer (some ⟨pb, 0, none⟩)) (.int .i64 p)).run Ybad.prog w = .ok (.pointer (some ⟨pb, p * 256, none⟩)) w := by
  simp [Instr.indexAt, Instr.sureAddr, go_sem, run_underlying Ybad.underlying31, Addr.add]
  rw [if_pos h]
  by_cases h0 : p * 256 = 0
  · rw [if_pos h0, h0]
  · rw [if_neg h0]
theorem build41 (pb f : Nat) (ls : Int) (p : Nat) (w : World) : (Instr.build 41 #[(0, .int .i64 f), (1, .int .i64 ls), (3, .pointer (some ⟨pb, p * 256, none⟩))]).run Ybad.prog w = .ok (.agg (bandC pb f ls p)) w := run_build w 41 _ _ (by kernel_rfl)
theorem eqg41 : Ybad.prog.eqGuardType Ybad.prog.depth 41 = false := by kernel_rfl
theorem s41 : (Ybad.prog.info? 41).map (·.size) = some 21 := by kernel_rfl
theorem s33 : (Ybad.prog.info? 33).map (·.size) = some 1 := by kernel_rfl
theorem s26 : (Ybad.prog.info? 26).map (·.size) = some 1 := by kernel_rfl
theorem s28 : (Ybad.prog.info? 28).map (·.size) = some 2 := by kernel_rfl
theorem s34 : (Ybad.prog.info? 34).map (·.size) = some 1 := by kernel_rfl
theorem s37 : (Ybad.prog.info? 37).map (·.size) = some 1 := by kernel_rfl
theorem F43_0 (b : Nat) (w : World) : (Instr.fieldAt 43 (.pointer (some ⟨b, 0, none⟩)) 0).run Ybad.prog w = .ok (.pointer (some ⟨b, 0, none⟩)) w := fieldAt_of Ybad.underlying43 0 _ rfl _ s3 b w
theorem F43_1 (b : Nat) (w : World) : (Instr.fieldAt 43 (.pointer (some ⟨b, 0, none⟩)) 1).run Ybad.prog w = .ok (.pointer (some ⟨b, 1, none⟩)) w := fieldAt_of Ybad.underlying43 1 _ rfl _ s33 b w
theorem F36_0 (b : Nat) (w : World) : (Instr.fieldAt 36 (.pointer (some ⟨b, 0, none⟩)) 0).run Ybad.prog w = .ok (.pointer (some ⟨b, 0, none⟩)) w := fieldAt_of Ybad.underlying36 0 _ rfl _ s34 b w
theorem F36_1 (b : Nat) (w : World) : (Instr.fieldAt 36 (.pointer (some ⟨b, 0, none⟩)) 1).run Ybad.prog w = .ok (.pointer (some ⟨b, 1, none⟩)) w := fieldAt_of Ybad.underlying36 1 _ rfl _ s5 b w
theorem F28_1 (b i : Nat) (w : World) : (Instr.fieldAt 28 (.pointer (some ⟨b, i, none⟩)) 1).run Ybad.prog w = .ok (.pointer (some ⟨b, i + 1, none⟩)) w := fieldAt_at Ybad.underlying28 1 _ rfl _ s26 1 rfl b i w
/-! in a region that draws its order and only reads -/
theorem q_hid {ops : Array Oper} {C : World → Prop} {Q : Act → Prop} {a : Act} {l : List (Nat × Value)} {rest : List Oper} {o : Oper} {d : Nat} {v : Value} (hd : o.dst = some d) (hw : Region.wanted o (yielded ops (putsL a l).tmps) = true)
    (hv : ∀ w, C w → (execOp (putsL a l).eval o).run Ybad.prog w = .ok (.value v) w) (h : Veil (wpQuiet Ybad.prog ops C Q rest (putsL a ((d, v) :: l)))) : Veil (wpQuiet Ybad.prog ops C Q (o :: rest) (putsL a l)) := ⟨by
  unfold wpQuiet
  rw [if_pos hw]
  refine ⟨v, fun w hw' => ?_, by rw [hd]; exact h.un⟩
  unfold Oper.quietAt
  rw [hv w hw']
  exact ⟨rfl, rfl⟩⟩
theorem q_start {ops : Array Oper} {C : World → Prop} {Q : Act → Prop} {a : Act} {l : List Oper} (h : Veil (wpQuiet Ybad.prog ops C Q l (putsL a []))) : wpQuiet Ybad.prog ops C Q l a := h.un
theorem q_end {ops : Array Oper} {C C' : World → Prop} {K : Act → World → Prop} {Q : Exit → Act → World → Prop} {a : Act} {L : List Value} {ds : List Deferred} (hA : a = ⟨L.toArray, ds⟩) {l : List (Nat × Value)} (i : Nat) (hl : rowD i l = true) (h : ∀ w, C' w → K ⟨(setR L i (valsU l [])).toArray, ds⟩ w) : Veil (wpQuiet Ybad.prog ops C (fun a' => ∀ w, C' w → Exit.then K Q .normal a' w) [] (putsL a l)) :=
  ⟨fun w hw => putsL_end (K := K) hA i hl (h w hw)⟩
end Go.Proofs.YbulkedlgDoor
