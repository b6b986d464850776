import Derived.Test.YbulkedksFmtRow
namespace Go.Proofs.YbulkedksFmt
open Go.RowKit Go.Extern.Stop Go.Stop Go.Extern
set_option linter.unusedVariables false

theorem run_copy_wide {P : Program} (w : World) (dT sT ty elem : TypeId) (sz g n dCap : Nat) (a : Addr) (sCap : Nat) (cs : List Value)
    (hu : P.underlying dT = some (.slice elem)) (hs : (P.info? elem).map (·.size) = some sz) (hn : cs.length = n * sz)
    (hsrc : w.rangeAt a.block a.off cs) (ha : a.spot = none) (ht : w.there g 0 cs.length) (h1 : ∀ v ∈ cs, v.oneCell' = true) :
    (Builtin.copy_ #[dT, sT] ty #[.slice (some ⟨g, 0, none⟩) n dCap, .slice (some a) n sCap]).run P w = .ok (goInt n) (w.setCells g 0 cs) := by
  have hl := run_loadCells_list (P := P) w a cs (fun j v hj => by
    obtain ⟨b, o, s⟩ := a
    simp only at ha
    subst ha
    rw [Addr.add_mid]; exact hsrc j v hj)
  have hst := run_storeCells_cells (P := P) g 0 cs 0 w (fun j hj => by simpa using (ht j hj).1) (fun j hj => by simpa using (ht j hj).2) h1
  have hst' : (storeCells ⟨g, 0, none⟩ cs).run P w = .ok () (w.setCells g 0 cs) := by simpa using hst
  cases hq : P.info? elem with
  | none => simp [hq] at hs
  | some i =>
    have hi : i.size = sz := by simpa [hq] using hs
    simp [Builtin.copy_, run_underlying hu, Builtin.lenOf, Builtin.firstCells, sizeOf, typeInfo, hq, hi, ← hn, hl, hst']

/-- All the chunks' cells, one behind the other. -/
def allCells (l : List Ck) : List Value := l.flatMap Ck.cells

theorem allCells_len (l : List Ck) (h : ∀ c ∈ l, c.hs.length = 32) : (allCells l).length = l.length * 34 := by
  induction l with
  | nil => rfl
  | cons c l ih =>
    have h1 : (allCells (c :: l)).length = c.cells.length + (allCells l).length := by simp [allCells]
    rw [h1, Ck.len34 c (h c (by simp)), ih fun d hd => h d (by simp [hd])]
    simp; omega

theorem allCells_get (l : List Ck) (h : ∀ c ∈ l, c.hs.length = 32) : ∀ (k : Nat) (hk : k < l.length) (j : Nat), j < 34 → (allCells l)[k * 34 + j]? = l[k].cells[j]? := by
  induction l with
  | nil => intro k hk; simp at hk
  | cons c l ih =>
    intro k hk j hj
    have hc := Ck.len34 c (h c (by simp))
    have e : allCells (c :: l) = c.cells ++ allCells l := by simp [allCells]
    rw [e]
    cases k with
    | zero => rw [List.getElem?_append_left (by omega)]; simp
    | succ k =>
      rw [List.getElem?_append_right (by omega), hc, show (k + 1) * 34 + j - 34 = k * 34 + j by omega, ih (fun d hd => h d (by simp [hd])) k (by simpa using hk) j hj]
      simp

theorem allCells_one (l : List Ck) : ∀ v ∈ allCells l, v.oneCell' = true := fun v hv => by
  simp [allCells] at hv
  obtain ⟨c, _, hv⟩ := hv
  exact c.ones v hv

theorem range_all {W : World} {g : Nat} {l : List Ck} (h : ∀ c ∈ l, c.hs.length = 32) (hr : ∀ k (hk : k < l.length), W.rangeAt g (k * 34) l[k].cells) : W.rangeAt g 0 (allCells l) := by
  intro j v hj
  have hlt : j < l.length * 34 := by rw [← allCells_len l h]; exact (List.getElem?_eq_some_iff.1 hj).1
  have hk : j / 34 < l.length := by omega
  have hm : j % 34 < 34 := Nat.mod_lt _ (by omega)
  have e : j = j / 34 * 34 + j % 34 := by omega
  rw [e, allCells_get l h _ hk _ hm] at hj
  have := hr _ hk _ _ hj
  rw [Nat.zero_add, e]
  exact this

theorem all_range {W : World} {g : Nat} {l : List Ck} (h : ∀ c ∈ l, c.hs.length = 32) (hr : W.rangeAt g 0 (allCells l)) : ∀ k (hk : k < l.length), W.rangeAt g (k * 34) l[k].cells := by
  intro k hk j v hj
  have h34 : j < 34 := by rw [← Ck.len34 _ (h _ (List.getElem_mem hk))]; exact (List.getElem?_eq_some_iff.1 hj).1
  rw [← allCells_get l h k hk j h34] at hj
  have := hr _ _ hj
  rw [Nat.zero_add] at this
  exact this

theorem RowB.thereAll {B g n : Nat} {W : World} (h : RowB B g n W) : W.there g 0 (n * 34) := by
  obtain ⟨_, cur, hg, hs⟩ := h
  intro j hj
  refine ⟨?_, frozen_of_row W _ _ _ _ hg⟩
  rw [cell_of_row _ _ _ _ _ _ hg, Array.getElem?_eq_getElem (by omega)]
  rfl

theorem run_copy_ck {B G n : Nat} {W : World} {a1 : Option Addr} {l : List Ck} (ty : TypeId) (hrow : RowB B G n W) (hC : CksB B W a1 n l) :
    ∃ W', (Builtin.copy_ #[24, 24] ty #[.slice (some ⟨G, 0, none⟩) n n, .slice a1 n n]).run Ybaf.prog W = .ok (goInt n) W' ∧ (∀ k (hk : k < l.length), W'.rangeAt G (k * 34) l[k].cells) ∧ Below G W W' := by
  obtain ⟨hn, h32, ⟨rfl, rfl⟩ | ⟨g, rfl, hg1, hg2, hr⟩⟩ := hC
  · simp at hn
    subst hn
    refine ⟨W, ?_, by simp, Below.refl _ _⟩
    exact run_copy_nil Ybaf.prog W 24 24 ty 32 _ 0 0 Ybaf.underlying24 (by rw [Ybaf.size32]; rfl)
  · refine ⟨W.setCells G 0 (allCells l), ?_, ?_, setCells_below G (Nat.le_refl _) _ _ _ (Below.refl _ _)⟩
    · exact run_copy_wide W 24 24 ty 32 34 G n n ⟨g, 0, none⟩ n (allCells l) Ybaf.underlying24 Ybaf.size32 (by rw [allCells_len l h32, hn]) (range_all h32 hr) rfl (by rw [allCells_len l h32, ← hn]; exact hrow.thereAll) (allCells_one l)
    · exact all_range h32 (World.rangeAt_setCells_same _ _ _ _ (by rw [allCells_len l h32, ← hn]; exact hrow.thereAll))

theorem wpList_copy_ck {B G n : Nat} {W : World} {a1 : Option Addr} {l : List Ck} {ops : Array Oper} {rest : List Oper} {o : Oper} {a : Act} {Q : Exit → Act → World → Prop} (hgd : o.guard = none) (d s : Operand)
    (ho : o.op = .call { callee := .builtin .copy, args := #[d, s], argTypes := #[24, 24] }) (hd : a.eval d = .slice (some ⟨G, 0, none⟩) n n) (hs : a.eval s = .slice a1 n n) (hrow : RowB B G n W) (hC : CksB B W a1 n l)
    (h : ∀ W', (∀ k (hk : k < l.length), W'.rangeAt G (k * 34) l[k].cells) → Below G W W' → wpList Ybaf.prog ops Q rest (a.put o.dst (goInt n)) W') : wpList Ybaf.prog ops Q (o :: rest) a W := by
  refine wpList_plain hgd fun K hK => ?_
  obtain ⟨W', hrun, h1, h2⟩ := run_copy_ck o.type hrow hC
  unfold Oper.wp
  simp [execOp, ho, resolve, invoke, builtin, hd, hs, hrun, Result.andThen]
  exact hK _ _ (h W' h1 h2)

theorem map3 {α β : Type} {l : List α} {f : α → β} {a b c : β} (h : l.map f = [a, b, c]) : ∃ x y z, l = [x, y, z] ∧ f x = a ∧ f y = b ∧ f z = c := by
  rcases l with _ | ⟨x, _ | ⟨y, _ | ⟨z, _ | ⟨u, l⟩⟩⟩⟩
  · simp at h
  · simp at h
  · simp at h
  · simp at h; exact ⟨x, y, z, rfl, h⟩
  · simp at h

theorem Ybaf.st32 : Ybaf.prog.underlying 32 = some (.struct (Ybaf.prog.fieldsOf 32)) := by kernel_rfl
theorem Ybaf.held32 : Ybaf.prog.stoodInHeld 32 = false := by kernel_rfl
theorem Ybaf.flds32 : (Ybaf.prog.fieldsOf 32).toList.map (fun f => (f.name == "_", f.type, f.offset)) = [(false, 2, 0), (false, 2, 1), (false, 30, 2)] := by kernel_rfl
theorem Ybaf.sizeOf30 (w : World) : (sizeOf 30).run Ybaf.prog w = .ok 32 w := by kernel_rfl

/-- '!=' between two equal chunks: no. -/
theorem part0 (c : Ck) (w : World) : (part 2 c.cells.toArray 0).run Ybaf.prog w = .ok (.int .i64 c.off) w := by simp [part, isAgg, run_underlying Ybaf.underlying2, Ck.cells]
theorem part1 (c : Ck) (w : World) : (part 2 c.cells.toArray 1).run Ybaf.prog w = .ok (.int .i64 c.len) w := by simp [part, isAgg, run_underlying Ybaf.underlying2, Ck.cells]
theorem part2 (c : Ck) (hc : c.hs.length = 32) (w : World) : (part 30 c.cells.toArray 2).run Ybaf.prog w = .ok (.agg (c.hs.map cell).toArray) w := by
  have ex : c.cells.toArray.extract 2 34 = (c.hs.map cell).toArray := by
    simp [Ck.cells]
    exact List.take_of_length_le (by simp [hc])
  simp only [part, isAgg, run_underlying Ybaf.underlying30, Sem.run_bind, Result.andThen_ok, Sem.run_pure, if_true, Ybaf.sizeOf30]
  rw [show 2 + 32 = 34 from rfl, ex]
theorem eqFields_ck (d : Nat) (c : Ck) (hc : c.hs.length = 32) (w : World) (f0 f1 f2 : Field) (n0 : f0.name ≠ "_") (t0 : f0.type = 2) (o0 : f0.offset = 0) (n1 : f1.name ≠ "_") (t1 : f1.type = 2) (o1 : f1.offset = 1) (n2 : f2.name ≠ "_") (t2 : f2.type = 30) (o2 : f2.offset = 2) :
    (Op.eqFields (d + 2) c.cells.toArray c.cells.toArray [f0, f1, f2]).run Ybaf.prog w = .ok true w := by
  have q0 := run_equalIn_int (P := Ybaf.prog) w (d + 1) 2 .i64 .i64 c.off c.off Ybaf.underlying2
  have q1 := run_equalIn_int (P := Ybaf.prog) w (d + 1) 2 .i64 .i64 c.len c.len Ybaf.underlying2
  have q2 := run_equalIn_bytes (P := Ybaf.prog) w d 30 5 32 Ybaf.underlying30 Ybaf.underlying5 Ybaf.size5 c.hs c.hs hc hc
  simp [Op.eqFields, t0, t1, t2, o0, o1, o2, part0, part1, part2 c hc, q0, q1, q2, n0, n1, n2]
theorem eq_ck_d (d : Nat) (c : Ck) (hc : c.hs.length = 32) (w : World) : (Op.equalIn (d + 3) 32 (.agg c.cells.toArray) (.agg c.cells.toArray)).run Ybaf.prog w = .ok true w := by
  rw [run_equalIn_struct w (d + 2) 32 _ _ Ybaf.st32 Ybaf.held32]
  obtain ⟨f0, f1, f2, hg, hf⟩ := map3 Ybaf.flds32
  simp only [Prod.mk.injEq, beq_eq_false_iff_ne] at hf
  obtain ⟨⟨n0, t0, o0⟩, ⟨n1, t1, o1⟩, ⟨n2, t2, o2⟩⟩ := hf
  rw [hg]
  exact eqFields_ck d c hc w f0 f1 f2 n0 t0 o0 n1 t1 o1 n2 t2 o2
theorem eq_ck (c : Ck) (hc : c.hs.length = 32) (w : World) : (Op.equalIn 10000 32 (.agg c.cells.toArray) (.agg c.cells.toArray)).run Ybaf.prog w = .ok true w := eq_ck_d 9997 c hc w
end Go.Proofs.YbulkedksFmt
