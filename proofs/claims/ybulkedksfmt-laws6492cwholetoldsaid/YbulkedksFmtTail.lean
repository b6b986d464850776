import Derived.Test.YbulkedksFmtCopy
namespace Go.Proofs.YbulkedksFmt
open Go.RowKit Go.Extern.Stop Go.Stop Go.Extern
set_option linter.unusedVariables false

/-- Behind 'man.Chunks = cs'. -/
structure T1 (w W : World) (a1 : Option Addr) (n : Nat) (id1 : ByteArray) (sz cs : Int) (comp : Bool) (hv : Int) (l : List Ck) : Prop where
  man : ManB w.heap.size W id1 sz cs (.slice a1 n n) comp hv
  cks : CksB w.heap.size W a1 n l
  bel : Below w.heap.size w W

theorem CksB.below {B : Nat} {W W' : World} {a : Option Addr} {n : Nat} {l : List Ck} (h : CksB B W a n l) (hb : Below W.heap.size W W') : CksB B W' a n l := by
  obtain ⟨hn, h32, h | ⟨g, rfl, h1, h2, hr⟩⟩ := h
  · exact ⟨hn, h32, .inl h⟩
  · exact ⟨hn, h32, .inr ⟨g, rfl, h1, Nat.lt_of_lt_of_le h2 hb.size, fun k hk j v hv => (hb.cell (p := ⟨g, k * 34 + j, none⟩) h2).trans (hr k hk j v hv)⟩⟩

theorem T1_of {w W : World} {a1 : Option Addr} {n : Nat} {id1 : ByteArray} {sz cs : Int} {comp : Bool} {hv : Int} {l : List Ck} (hM : ManB w.heap.size W id1 sz cs (.slice none 0 0) comp hv) (hC : CksB w.heap.size W a1 n l) (hbel : Below w.heap.size w W) :
    T1 w (W.setCell ⟨w.heap.size + 1, 3, none⟩ (.slice a1 n n)) a1 n id1 sz cs comp hv l := by
  refine ⟨hM.put 3 _, ?_, hbel.setCell (by simp) _⟩
  obtain ⟨hn, h32, h | ⟨g, rfl, h1, h2, hr⟩⟩ := hC
  · exact ⟨hn, h32, .inl h⟩
  · refine ⟨hn, h32, .inr ⟨g, rfl, h1, by simpa [World.setCell] using h2, fun k hk j v hv => ?_⟩⟩
    rw [World.cell?_of_block (w := W) (Below.heap_setCell _ _ _ _ (by simp; omega))]
    exact hr k hk j v hv

/-- Behind 'saved := make(..)': G its block. -/
structure T2 (w W : World) (G : Nat) (a1 : Option Addr) (n : Nat) (id1 : ByteArray) (sz cs : Int) (comp : Bool) (hv : Int) (l : List Ck) : Prop where
  man : ManB w.heap.size W id1 sz cs (.slice a1 n n) comp hv
  cks : CksB w.heap.size W a1 n l
  bel : Below w.heap.size w W
  row : RowB w.heap.size G n W
  hG : ∀ g, a1 = some ⟨g, 0, none⟩ → g < G
  hG2 : w.heap.size + 1 < G

theorem T1.make {w W w2 : World} {a1 : Option Addr} {n : Nat} {id1 : ByteArray} {sz cs : Int} {comp : Bool} {hv : Int} {l : List Ck} {G : Nat} {xs : List Value} (h : T1 w W a1 n id1 sz cs comp hv l)
    (hown : w2.ownsRow (w.heap.size + 2) 32 34 (.slice (some ⟨G, 0, none⟩) n n) n xs) (hg : W.grownBy w2 none) (hGW : G = W.heap.size := by simp) : T2 w w2 G a1 n id1 sz cs comp hv l := by
  have hb : Below W.heap.size W w2 := (Below.refl _ _).grown hg (Nat.le_refl _) (by simp)
  refine ⟨h.man.below hb, h.cks.below hb, h.bel.trans (hb.mono h.bel.size), ?_, ?_, by rw [hGW]; exact h.man.lt⟩
  · rcases hown.2 with ⟨h', _⟩ | ⟨g, cap, cur, h', hb, hh, _, _, hsz, _⟩
    · simp at h'
    · simp only [Value.slice.injEq, Option.some.injEq, Addr.mk.injEq, and_true, true_and] at h'
      obtain ⟨rfl, rfl⟩ := h'
      exact ⟨hb, cur, hh, hsz⟩
  · rintro g rfl
    obtain ⟨_, _, ⟨h, _⟩ | ⟨g', h', _, h2, _⟩⟩ := h.cks
    · cases h
    · simp at h'; subst h'; rw [hGW]; exact h2

/-- Behind 'copy(saved, cs)'. -/
structure T3 (w W : World) (G : Nat) (a1 : Option Addr) (n : Nat) (id1 : ByteArray) (sz cs : Int) (comp : Bool) (hv : Int) (l : List Ck) : Prop where
  man : ManB w.heap.size W id1 sz cs (.slice a1 n n) comp hv
  cks : CksB w.heap.size W a1 n l
  bel : Below w.heap.size w W
  sav : CksB w.heap.size W (some ⟨G, 0, none⟩) n l
  hG2 : w.heap.size + 1 < G

theorem T2.copy {w W w3 : World} {G : Nat} {a1 : Option Addr} {n : Nat} {id1 : ByteArray} {sz cs : Int} {comp : Bool} {hv : Int} {l : List Ck} (h : T2 w W G a1 n id1 sz cs comp hv l)
    (hr : ∀ k (hk : k < l.length), w3.rangeAt G (k * 34) l[k].cells) (hb : Below G W w3) : T3 w w3 G a1 n id1 sz cs comp hv l := by
  have hG2 := h.hG2
  refine ⟨?_, ?_, h.bel.trans (hb.mono (by omega)), ?_, hG2⟩
  · unfold ManB; rw [hb.block _ hG2]; exact h.man
  · obtain ⟨hn, h32, h' | ⟨g, rfl, h1, h2, hr'⟩⟩ := h.cks
    · exact ⟨hn, h32, .inl h'⟩
    · have hg := h.hG g rfl
      exact ⟨hn, h32, .inr ⟨g, rfl, h1, Nat.lt_of_lt_of_le h2 hb.size, fun k hk j v hv => (hb.cell (p := ⟨g, k * 34 + j, none⟩) hg).trans (hr' k hk j v hv)⟩⟩
  · exact ⟨h.cks.1, h.cks.2.1, .inr ⟨G, rfl, h.row.1, Nat.lt_of_lt_of_le h.row.lt hb.size, hr⟩⟩

theorem T3.cells {w W : World} {G : Nat} {a1 : Option Addr} {n : Nat} {id1 : ByteArray} {sz cs : Int} {comp : Bool} {hv : Int} {l : List Ck} (h : T3 w W G a1 n id1 sz cs comp hv l) :
    W.cell? ⟨w.heap.size + 1, 0, none⟩ = some (.string id1) ∧ W.cell? ⟨w.heap.size + 1, 1, none⟩ = some (.int .i64 sz) ∧ W.cell? ⟨w.heap.size + 1, 2, none⟩ = some (.int .i64 cs) ∧
    W.cell? ⟨w.heap.size + 1, 3, none⟩ = some (.slice a1 n n) ∧ W.cell? ⟨w.heap.size + 1, 4, none⟩ = some (.bool comp) ∧ W.cell? ⟨w.heap.size + 1, 5, none⟩ = some (.int .i64 hv) :=
  ⟨h.man.cell 0, h.man.cell 1, h.man.cell 2, h.man.cell 3, h.man.cell 4, h.man.cell 5⟩

theorem T3.below {w W W' : World} {G : Nat} {a1 : Option Addr} {n : Nat} {id1 : ByteArray} {sz cs : Int} {comp : Bool} {hv : Int} {l : List Ck} (h : T3 w W G a1 n id1 sz cs comp hv l) (hb : Below W.heap.size W W') : T3 w W' G a1 n id1 sz cs comp hv l :=
  ⟨h.man.below hb, h.cks.below hb, h.bel.trans (hb.mono h.bel.size), h.sav.below hb, h.hG2⟩

theorem CksB.at {B : Nat} {W : World} {a : Option Addr} {n : Nat} {l : List Ck} (h : CksB B W a n l) : CksAt W a n l := by
  obtain ⟨hn, h32, h | ⟨g, rfl, h1, h2, hr⟩⟩ := h
  · exact ⟨hn, h32, .inl h⟩
  · exact ⟨hn, h32, .inr ⟨g, rfl, h2, hr⟩⟩

theorem T3.manAt {w W : World} {G : Nat} {a1 : Option Addr} {n : Nat} {id1 : ByteArray} {sz cs : Int} {comp : Bool} {hv : Int} {l : List Ck} (h : T3 w W G a1 n id1 sz cs comp hv l) : ManAt W (w.heap.size + 1) id1 sz cs (.slice a1 n n) :=
  ⟨h.man.cell 0, h.man.cell 1, h.man.cell 2, h.man.cell 3⟩

theorem T3.valid {w W : World} {G : Nat} {a1 : Option Addr} {n : Nat} {id1 : ByteArray} {sz cs : Int} {comp : Bool} {hv : Int} {l : List Ck} (h : T3 w W G a1 n id1 sz cs comp hv l) (q : Nat) (hid : id1.size ≤ maxLen) (hn : n ≤ 1048576) :
    Calls Ybaf.prog 5 #[.pointer (some ⟨w.heap.size + 1, 0, none⟩)] (W.drewN q) fun e w1 => e = .returned (.bool (validB id1 sz cs l)) ∧ T3 w w1 G a1 n id1 sz cs comp hv l := by
  have h' : T3 w (W.drewN q) G a1 n id1 sz cs comp hv l := h.below (below_drewN (Below.refl _ _) q)
  refine (valid_any _ id1 sz cs a1 n l (W.drewN q) hid h'.manAt h'.cks.at hn h'.man.lt).mono ?_
  rintro e w1 ⟨rfl, hb⟩
  exact ⟨rfl, h'.below hb⟩

theorem T3.check {w W : World} {G : Nat} {a1 : Option Addr} {n : Nat} {id1 : ByteArray} {sz cs : Int} {comp : Bool} {hv : Int} {l : List Ck} (h : T3 w W G a1 n id1 sz cs comp hv l) (hid : id1.size ≤ maxLen) (hn : n ≤ 1048576)
    (wsz : (Lit.int .i64 sz).wf = true) (wcs : (Lit.int .i64 cs).wf = true) (C : Nat) (addr wid : ByteArray) (hCw : C < W.heap.size) (hc : W.cell? ⟨C, 0, none⟩ = some (.string addr)) (vb : Bool) (hvb : (validB id1 sz cs l && (id1.toList == wid.toList)) = vb) :
    Calls Ybaf.prog 6 #[.pointer (some ⟨C, 0, none⟩), .pointer (some ⟨w.heap.size + 1, 0, none⟩), .string wid] W fun e w1 => ((vb = true ∧ e = .returned .nilIface) ∨ (vb = false ∧ ∃ u x, e = .returned (.iface u x))) ∧ Below W.heap.size W w1 := by
  refine (chk_any C _ addr wid id1 sz cs a1 n l W hid wsz wcs h.manAt h.cks.at hn h.man.lt hCw hc).mono ?_
  rw [hvb]
  rintro e w1 (⟨h1, rfl, hb⟩ | ⟨h1, v, rfl, ⟨a, s, hv, _⟩, hb⟩)
  · exact ⟨.inl ⟨h1, rfl⟩, hb⟩
  · rcases hv with rfl | rfl
    · exact ⟨.inr ⟨h1, _, _, rfl⟩, hb⟩
    · exact ⟨.inr ⟨h1, _, _, rfl⟩, hb⟩

theorem eqIn39 (d : Nat) (w : World) : (Op.equalIn (d + 1) 39 .nilFunc .nilFunc).run Ybaf.prog w = .ok true w := by
  simp [Op.equalIn, run_underlying Ybaf.underlying39]
theorem neq39 (w : World) : (binOp .neq 39 .nilFunc .nilFunc).run Ybaf.prog w = .ok (.bool false) w := by
  simp only [binOp]
  simp [Op.equal, Op.maxDepth, eqIn39 9999 w]

theorem eqIn24 (d : Nat) (a : Option Addr) (n m : Nat) (w : World) : (Op.equalIn (d + 1) 24 (.slice a n m) (.slice none 0 0)).run Ybaf.prog w = .ok a.isNone w := by
  cases a <;> simp [Op.equalIn, run_underlying Ybaf.underlying24]
theorem eql24 (a : Option Addr) (n m : Nat) (w : World) : (binOp .eql 24 (.slice a n m) (.slice none 0 0)).run Ybaf.prog w = .ok (.bool a.isNone) w := by
  simp only [binOp]
  simp [Op.equal, Op.maxDepth, eqIn24 9999 a n m w]

theorem rangeAt_drewN {w : World} {b o : Nat} {cs : List Value} (h : w.rangeAt b o cs) (n : Nat) : (w.drewN n).rangeAt b o cs := fun j v hj => h j v hj

/-- A whole value loaded out of the middle of a block, in a region that only reads. -/
theorem wpQuiet_load_mid {P : Program} {ops : Array Oper} {w : World} {Q : Act → Prop} {a : Act} {o : Oper} {rest : List Oper} (ty : TypeId) (x : Operand) (ho : o.op = .load ty x) (hgd : o.guard = none)
    (b i : Nat) (hx : a.eval x = .pointer (some ⟨b, i, none⟩)) (cs : List Value) (d : TypeDesc) (hc : w.rangeAt b i cs)
    (hu : P.underlying ty = some d) (hd : d.isRow = true) (hi : (P.info? ty).map (·.size) = some cs.length)
    (h : wpQuiet P ops (fun w' => ∃ n, w' = w.drewN n) Q rest (a.put o.dst (.agg cs.toArray))) : wpQuiet P ops (fun w' => ∃ n, w' = w.drewN n) Q (o :: rest) a := by
  simp only [wpQuiet, Region.wanted, hgd, if_true]
  refine ⟨.agg cs.toArray, ?_, h⟩
  rintro w' ⟨n, rfl⟩
  unfold Oper.quietAt execOp
  simp only [ho, hx, Instr.loadAt, Instr.sureAddr, Sem.run_bind, Sem.run_pure, Result.andThen_ok, run_loadVar_mid (w.drewN n) b i ty cs d (rangeAt_drewN hc n) hu hd hi]
  exact ⟨rfl, rfl⟩

theorem at_quiet {P : Program} {ops : Array Oper} {C : World → Prop} {Q : Act → Prop} {a : Act} {o : Oper} {rest : List Oper} (p : Op) (_ : o.op = p) (k : wpQuiet P ops C Q (o :: rest) a) : wpQuiet P ops C Q (o :: rest) a := k

theorem CksB.range {B : Nat} {W : World} {a : Option Addr} {n : Nat} {l : List Ck} (h : CksB B W a n l) {k : Nat} (hk : k < n) (hkl : k < l.length) : ∃ g, a = some ⟨g, 0, none⟩ ∧ W.rangeAt g (k * 34) l[k].cells := by
  obtain ⟨hn, h32, ⟨rfl, rfl⟩ | ⟨g, rfl, h1, h2, hr⟩⟩ := h
  · simp at hkl
  · exact ⟨g, rfl, hr k hkl⟩
end Go.Proofs.YbulkedksFmt
