import Derived.Test.YbulkedlgDoorWk
import Derived.Laws.CopyOwn
namespace Go.Proofs.YbulkedlgDoor
open Go.RowKit
set_option linter.unusedVariables false

theorem Bi.drew {W : World} {pb f GB m j : Nat} {lst : Nat → Int} {p : Nat → Nat} {gcj : Nat → Nat} (h : Bi W pb f GB m j lst p gcj) : Bi W.drew pb f GB m j lst p gcj := by
  obtain ⟨F, hr, hF⟩ := h.row
  exact ⟨⟨F, hr.of_block rfl, hF⟩, h.band, h.lo⟩
theorem s_eq (x : Int) : (wrap64 (x.tmod 16 + 16)).tmod 16 = x % 16 := by
  rcases Int.le_total 0 x with h | h
  · rw [Int.tmod_eq_emod_of_nonneg h]
    have e : wrap64 (x % 16 + 16) = x % 16 + 16 := by unfold wrap64; omega
    rw [e, Int.tmod_eq_emod_of_nonneg (by omega)]
    omega
  · have e0 : x.tmod 16 = -((-x) % 16) := by
      have : x = -(-x) := by omega
      rw [this, Int.neg_tmod, Int.tmod_eq_emod_of_nonneg (by omega)]
      simp
    rw [e0]
    have e : wrap64 (-(-x % 16) + 16) = -(-x % 16) + 16 := by unfold wrap64; omega
    rw [e, Int.tmod_eq_emod_of_nonneg (by omega)]
    omega
theorem rangeAt_drewN {w : World} {b o : Nat} {cs : List Value} (h : w.rangeAt b o cs) (n : Nat) : (w.drewN n).rangeAt b o cs := fun j v hj => h j v hj
/-- A whole value loaded out of the middle of a block, in a region that only reads. -/
theorem wpQuiet_load_mid {P : Program} {ops : Array Oper} {w : World} {Q : Act → Prop} {a : Act} {o : Oper} {rest : List Oper} (ty : TypeId) (x : Operand) (ho : o.op = .load ty x) (hgd : o.guard = none)
    (b i : Nat) (hx : a.eval x = .pointer (some ⟨b, i, none⟩)) (cs : List Value) (d : TypeDesc) (hc : w.rangeAt b i cs)
    (hu : P.underlying ty = some d) (hd : d.isRow = true) (hi : (P.info? ty).map (·.size) = some cs.length)
    (h : wpQuiet P ops (fun w' => ∃ n, w' = w.drewN n) Q rest (a.put o.dst (.agg cs.toArray))) : wpQuiet P ops (fun w' => ∃ n, w' = w.drewN n) Q (o :: rest) a := by
  simp only [wpQuiet, Region.wanted, hgd, if_true]
  refine ⟨.agg cs.toArray, ?_, h⟩
  rintro w' ⟨n, rfl⟩
  unfold Oper.quietAt execOp
  simp only [ho, hx, Instr.loadAt, Instr.sureAddr, Sem.run_bind, Sem.run_pure, Result.andThen_ok, run_loadVar_mid (w.drewN n) b i ty cs d (rangeAt_drewN hc n) hu hd hi]
  exact ⟨rfl, rfl⟩
theorem wpQuiet_build {P : Program} {ops : Array Oper} {w : World} {Q : Act → Prop} {a : Act} {o : Oper} {rest : List Oper} (t : TypeId) (parts : Array (Nat × Operand)) (ho : o.op = .build t parts) (hgd : o.guard = none)
    (vals : Array (Nat × Value)) (hv : (parts.toList.map fun (i, x) => (i, a.eval x)) = vals.toList) (cells : Array Value) (hrun : ∀ w, (Instr.build t vals).run P w = .ok (.agg cells) w)
    (h : wpQuiet P ops (fun w' => ∃ n, w' = w.drewN n) Q rest (a.put o.dst (.agg cells))) : wpQuiet P ops (fun w' => ∃ n, w' = w.drewN n) Q (o :: rest) a := by
  simp only [wpQuiet, Region.wanted, hgd, if_true]
  refine ⟨.agg cells, ?_, h⟩
  rintro w' ⟨n, rfl⟩
  have hr : (Instr.build t (parts.map fun (i, x) => (i, a.eval x))).run P (w.drewN n) = .ok (.agg cells) (w.drewN n) := by
    have e : (parts.map fun (i, x) => (i, a.eval x)) = vals := by
      apply Array.toList_inj.1
      rw [Array.toList_map]; exact hv
    rw [e]; exact hrun _
  unfold Oper.quietAt execOp
  simp only [ho, Sem.run_bind, hr, Result.andThen_ok, Sem.run_pure]
  exact ⟨rfl, rfl⟩
theorem at_quiet {P : Program} {ops : Array Oper} {C : World → Prop} {Q : Act → Prop} {a : Act} {o : Oper} {rest : List Oper} (p : Op) (_ : o.op = p) (k : wpQuiet P ops C Q (o :: rest) a) : wpQuiet P ops C Q (o :: rest) a := k
theorem s55 : (Ybad.prog.info? 55).map (·.size) = some 73 := by kernel_rfl
theorem s46 : (Ybad.prog.info? 46).map (·.size) = some 1024 := by kernel_rfl
theorem s47 : (Ybad.prog.info? 47).map (·.size) = some 64 := by kernel_rfl
theorem zs_len (k : IntKind) (n : Nat) : (zs k n).toList.length = n := by unfold zs; rw [List.toList_toArray, List.length_replicate]
theorem neqNil_d (d : Nat) {t e : TypeId} (h : Ybad.prog.underlying t = some (.slice e)) (a : Option Addr) (n c : Nat) (w : World) : (Op.equalIn (d + 1) t (.slice a n c) (.slice none 0 0)).run Ybad.prog w = .ok a.isNone w := by
  cases a <;> simp [Op.equalIn, run_underlying h]
theorem neqNil {t e : TypeId} (h : Ybad.prog.underlying t = some (.slice e)) (w : World) : (binOp .neq t (.slice none 0 0) (.slice none 0 0)).run Ybad.prog w = .ok (.bool false) w := by
  have h' : (Op.equalIn 10000 t (.slice none 0 0) (.slice none 0 0)).run Ybad.prog w = .ok true w := neqNil_d 9999 h none 0 0 w
  simp only [binOp]
  simp [Op.equal, Op.maxDepth, h']
theorem eqg31 : Ybad.prog.eqGuardType Ybad.prog.depth 31 = false := by kernel_rfl
theorem eqg46 : Ybad.prog.eqGuardType Ybad.prog.depth 46 = false := by kernel_rfl
theorem eqg47 : Ybad.prog.eqGuardType Ybad.prog.depth 47 = false := by kernel_rfl
/-- '!=' between two equal great values: no. -/
theorem wpList_neq_agg {ops : Array Oper} {rest : List Oper} {o : Oper} {a : Act} {w : World} {Q : Exit → Act → World → Prop} (hg : o.guard = none) (t : TypeId) (x y : Operand) (ho : o.op = .binOp .neq t x y t) (hq : Ybad.prog.eqGuardType Ybad.prog.depth t = false) (xs : Array Value) (hx : a.eval x = .agg xs) (hy : a.eval y = .agg xs)
    (he : ∀ w, (binOp .neq t (.agg xs) (.agg xs)).run Ybad.prog w = .ok (.bool false) w)
    (h : wpList Ybad.prog ops Q rest (a.put o.dst (.bool false)) w) : wpList Ybad.prog ops Q (o :: rest) a w :=
  wpList_plain hg fun K' hK' => by
    unfold Oper.wp execOp
    simp only [ho, hx, hy, Sem.run_bind, run_eqGuard_agg w _ _ _ _ _ _ hq, he w, Result.andThen_ok, Sem.run_pure]
    exact hK' _ _ h
theorem wpList_when {P : Program} {ops : Array Oper} {Q : Exit → Act → World → Prop} {a : Act} {w : World} {rest : List Oper} {o : Oper} (hw : Region.wanted o (yielded ops a.tmps) = true)
    (h : ∀ K : Act → World → Prop, (∀ a w, wpList P ops Q rest a w → K a w) → o.wp P a w K Q) : wpList P ops Q (o :: rest) a w :=
  wpList_step fun K hK => by rw [if_pos hw]; exact h K hK
theorem when_load {ops : Array Oper} {rest : List Oper} {op : Oper} {a : Act} {w : World} {Q : Exit → Act → World → Prop} (hw : Region.wanted op (yielded ops a.tmps) = true) (ty : TypeId) (x : Operand) (ho : op.op = .load ty x)
    (b o : Nat) (hx : a.eval x = .pointer (some ⟨b, o, none⟩)) (cs : Array Value) (d : TypeDesc) (hc : w.rangeAt b o cs.toList)
    (hu : Ybad.prog.underlying ty = some d) (hd : d.isRow = true) (hi : (Ybad.prog.info? ty).map (·.size) = some cs.toList.length)
    (h : wpList Ybad.prog ops Q rest (a.put op.dst (.agg cs)) w) : wpList Ybad.prog ops Q (op :: rest) a w :=
  wpList_when hw fun _ hK => wp_load_mid ty x ho b o hx cs.toList d hc hu hd hi (by rw [Array.toArray_toList]; exact hK _ _ h)
theorem when_build {ops : Array Oper} {rest : List Oper} {o : Oper} {a : Act} {w : World} {Q : Exit → Act → World → Prop} (hw : Region.wanted o (yielded ops a.tmps) = true) (t : TypeId) (ho : o.op = .build t #[])
    (cells : Array Value) (hrun : ∀ w, (Instr.build t #[]).run Ybad.prog w = .ok (.agg cells) w)
    (h : wpList Ybad.prog ops Q rest (a.put o.dst (.agg cells)) w) : wpList Ybad.prog ops Q (o :: rest) a w :=
  wpList_when hw fun K' hK' => by
    have hr : (Instr.build t ((#[] : Array (Nat × Operand)).map fun (i, x) => (i, a.eval x))).run Ybad.prog w = .ok (.agg cells) w := by
      have e : ((#[] : Array (Nat × Operand)).map fun (i, x) => (i, a.eval x)) = #[] := by simp
      rw [e]; exact hrun w
    unfold Oper.wp execOp
    simp only [ho, Sem.run_bind, hr, Result.andThen_ok, Sem.run_pure]
    exact hK' _ _ h
theorem when_neq {ops : Array Oper} {rest : List Oper} {o : Oper} {a : Act} {w : World} {Q : Exit → Act → World → Prop} (hw : Region.wanted o (yielded ops a.tmps) = true) (t : TypeId) (x y : Operand) (ho : o.op = .binOp .neq t x y t) (hq : Ybad.prog.eqGuardType Ybad.prog.depth t = false) (xs : Array Value) (hx : a.eval x = .agg xs) (hy : a.eval y = .agg xs)
    (he : ∀ w, (binOp .neq t (.agg xs) (.agg xs)).run Ybad.prog w = .ok (.bool false) w)
    (h : wpList Ybad.prog ops Q rest (a.put o.dst (.bool false)) w) : wpList Ybad.prog ops Q (o :: rest) a w :=
  wpList_when hw fun K' hK' => by
    unfold Oper.wp execOp
    simp only [ho, hx, hy, Sem.run_bind, run_eqGuard_agg w _ _ _ _ _ _ hq, he w, Result.andThen_ok, Sem.run_pure]
    exact hK' _ _ h
theorem info43 : (Ybad.prog.info? 43).map (fun i => (i.zero, i.size, i.bytes)) = some (some (.agg #[.int .i64 0, .slice none 0 0]), 2, 32) := by kernel_rfl
theorem info37 : (Ybad.prog.info? 37).map (fun i => (i.zero, i.size, i.bytes)) = some (some (.pointer none), 1, 8) := by kernel_rfl
theorem s43 : (Ybad.prog.info? 43).map (·.size) = some 2 := by kernel_rfl
theorem one43 (f : Int) (a : Option Addr) (x y : Nat) : (#[Value.int .i64 f, .slice a x y]).all (·.oneCell') = true := by
  rw [Array.all_eq_true_iff_forall_mem]
  intro u hu
  simp at hu
  rcases hu with rfl | rfl <;> rfl
theorem s31 : (Ybad.prog.info? 31).map (·.size) = some 768 := by kernel_rfl
theorem one31 (v : Nat → Int) : (pv v).all (·.oneCell') = true := by
  rw [Array.all_eq_true_iff_forall_mem]
  intro x hx
  simp [pv] at hx
  obtain ⟨i, _, rfl⟩ := hx
  rfl
theorem PoolAt.range {W : World} {pb : Nat} {v : Nat → Int} (h : PoolAt W pb v) : W.rangeAt pb 0 (pv v).toList := fun j u hu => by
  rw [Nat.zero_add, cell_of_row _ _ _ _ _ _ h]; simpa using hu
theorem wpList_load_pool {ops : Array Oper} {rest : List Oper} {op : Oper} {a : Act} {w : World} {Q : Exit → Act → World → Prop} (hgd : op.guard = none) (x : Operand) (ho : op.op = .load 31 x)
    (b : Nat) (hx : a.eval x = .pointer (some ⟨b, 0, none⟩)) (v : Nat → Int) (hp : PoolAt w b v)
    (h : wpList Ybad.prog ops Q rest (a.put op.dst (.agg (pv v))) w) : wpList Ybad.prog ops Q (op :: rest) a w := by
  refine wpList_load_mid hgd 31 x ho b 0 hx (pv v).toList _ hp.range Ybad.underlying31 rfl (by rw [Array.length_toList, pv_size]; exact s31) ?_
  rw [Array.toArray_toList]
  exact h

set_option maxRecDepth 100000 in
set_option maxHeartbeats 8000000 in
theorem lawC_x (al : Int) (c : Nat) (sz : Nat → Int) (a3 : Option Addr) (n3 c3 : Nat) (iv : Nat → Int) (a4 : Option Addr) (n c4 : Nat) (fst : Nat → Int) (ab : Nat → Option Addr) (m cb : Nat → Nat) (lst own : Nat → Nat → Int) (w : World)
    (hal : -9223372036854775808 ≤ al ∧ al ≤ 9223372036854775807) (hc : c < 18446744073709551616) (hsz : ∀ q, q < 64 → 0 ≤ sz q ∧ sz q ≤ 255) (hU : ArgU w a3 n3 iv) (hA : ArgSt w a4 n fst ab m cb lst own) (hn3 : n3 ≤ 1048576) (hn : n ≤ 65536) (hT : TabAt w) (h0 : 0 < w.heap.size) (K : Nat → Option Nat) (Bf : Nat → Nat) (hok : (∀ i, i < n → m i ≤ 1048576) → (mkI al sz n fst m lst own K Bf).ok c) :
    Calls Ybad.prog 3 #[.int .i64 al, .int .u64 c, .agg (szL sz).toArray, .slice a3 n3 c3, .slice a4 n c4] w fun e w' => e = .returned (.bool true) ∧ Below w.heap.size w w' := by
  have z31 := zero31
  have HU := hide hU
  have HA := hide hA
  have HT := hide hT
  have HSZ := hide hsz
  have HOK := hide hok
  clear hU hA hT hsz hok
  go_enter Ybad.func3, Ybad.ntmps3
  go_upto_block 0 with fail
  have HS0 : Hid (S0 w (w.alloc (Obj.cells (szL sz).toArray 23)) sz) := ⟨(Below.refl _ _).alloc (Nat.le_refl _) _, heap_alloc_new w _⟩
  have hsize0 : (w.alloc (Obj.cells (szL sz).toArray 23)).heap.size = w.heap.size + 1 := by simp
  generalize w.alloc (Obj.cells (szL sz).toArray 23) = W0 at *
  have hm46 : ∀ i, i < n → m i ≤ 70368744175616 := HA.out.mb
  have HMB := hide hm46
  have htot : ∀ k, k ≤ n → total m k ≤ 4611686018427387904 := fun k hk => by
    have h1 := total_le m n 70368744175616 hm46 k hk
    have : k * 70368744175616 ≤ 65536 * 70368744175616 := Nat.mul_le_mul_right _ (by omega)
    omega
  have HTOT := hide htot
  clear hm46 htot
  go_cut [11] (fun s W => s = .int .i64 (total m n) ∧ W = W0)
  case first =>
    as_aux_lemma =>
      go_wp2_with fail
      go_loopw [11, 53] (fun s x W => ∃ k : Nat, k ≤ n ∧ s = .int .i64 (total m k) ∧ x = .int .i64 k ∧ W = W0) (fun _ x _ => n - (intOf x).toNat)
      case atStart => exact ⟨0, by omega, rfl, rfl, rfl⟩
      case round =>
        obtain ⟨k, hk, rfl, rfl, hwr⟩ := hrel
        obtain rfl := hwr.symm
        by_cases hlt : k < n
        · obtain ⟨b, off, rfl, hbw, hcl⟩ := HA.out.cells (by omega)
          obtain ⟨hc0, hc1⟩ := hcl k hlt
          have hc1' : W0.cell? ⟨b, off + k * 2 + 1, none⟩ = some (.slice (ab k) (m k) (cb k)) := by rw [HS0.out.bel.cell (p := ⟨b, off + k * 2 + 1, none⟩) hbw]; exact hc1
          have ht1 := HTOT.out k (by omega)
          have ht2 := HTOT.out (k + 1) (by omega)
          have hmk := HMB.out k hlt
          have HTS : Hid ((total m (k + 1) : Nat) = total m k + m k) := rfl
          clear hc0 hc1 hcl
          go_wp2_with fail
          go_roundw
          case rel => exact ⟨k + 1, by omega, by rw [HTS.out]; go_num, by go_num, trivial⟩
          case measure => simp [intOf]; omega
        · have : k = n := by omega
          subst this
          go_wp2_with fail
          go_meet
          case rel => exact ⟨rfl, rfl⟩
  case rest =>
    obtain ⟨rfl, hwc⟩ := hcut
    obtain rfl := hwc.symm
    have htn := HTOT.out n (Nat.le_refl _)
    by_cases htot' : 1048576 < total m n
    · go_wp2_with fail
      go_ret
      exact ⟨rfl, HS0.out.bel⟩
    · have htot : total m n ≤ 1048576 := by omega
      have hmb : ∀ i, i < n → m i ≤ 1048576 := fun i hi => Nat.le_trans (le_total m n i hi) htot
      have HM := hide hmb
      clear hmb HTOT HMB htn
      go_upto_block 2 with fail
      obtain ⟨pb, hpb⟩ : ∃ pb, w.heap.size + 1 = pb := ⟨_, rfl⟩
      have HPB := hide hpb
      rw [hpb] at hsize0 ⊢
      clear hpb
      have hP1 : PoolAt (W0.alloc (Obj.cells (pv fun x => 0) 31)) pb (fillv iv n3 0) := by
        rw [fillv_zero, ← hsize0]; exact heap_alloc_new W0 _
      have hS1 : S0 w (W0.alloc (Obj.cells (pv fun x => 0) 31)) sz := HS0.out.later ((Below.refl _ _).alloc (by have := HPB.out; omega) _)
      have hz1 : (W0.alloc (Obj.cells (pv fun x => 0) 31)).heap.size = pb + 1 := by simp [hsize0]
      have HP1 := hide hP1
      have HS1 := hide hS1
      clear hP1 hS1 HS0 hsize0
      generalize W0.alloc (Obj.cells (pv fun x => 0) 31) = W1 at *
      go_cut [14] (fun s W => PoolAt W pb (fillv iv n3 768) ∧ S0 w W sz ∧ W.heap.size = pb + 1)
      case first =>
        as_aux_lemma =>
          go_wp2_with fail
          go_loopw [14] (fun s W => ∃ q : Nat, q ≤ 3 ∧ s = .int .i64 q ∧ PoolAt W pb (fillv iv n3 (q * 256)) ∧ S0 w W sz ∧ W.heap.size = pb + 1) (fun s _ => 3 - (intOf s).toNat)
          case atStart => exact ⟨0, by omega, rfl, by simpa using HP1.out, HS1.out, hz1⟩
          case round =>
            clear HP1 HS1 hz1
            obtain ⟨q, hq, rfl, hP, hS, hz⟩ := hrel
            by_cases hlt : q < 3
            · have HP := hide hP
              have HS := hide hS
              have HZ := hide hz
              clear hP hS hz
              go_wp2_with fail
              go_loopw [15] (fun s W => ∃ x : Nat, x ≤ 256 ∧ s = .int .i64 x ∧ PoolAt W pb (fillv iv n3 (q * 256 + x)) ∧ S0 w W sz ∧ W.heap.size = pb + 1) (fun s _ => 256 - (intOf s).toNat)
              case atStart => exact ⟨0, by omega, rfl, HP.out, HS.out, HZ.out⟩
              case round =>
                clear HP HS HZ
                obtain ⟨x, hx, rfl, hP, hS, hz⟩ := hrel
                by_cases hltx : x < 256
                · have HP := hide hP
                  have HS := hide hS
                  have HZ := hide hz
                  by_cases hin : q * 256 + x < n3
                  · rcases HU.out with h | ⟨xu, rfl, hcu⟩
                    · omega
                    have hcu0 := hcu (q * 256 + x) hin
                    have hcu1 : wr.cell? (xu.add (q * 256 + x)) = some (.int .u32 (iv (q * 256 + x))) := by rw [hS.bel.cell (World.block_lt_of_cell? _ _ hcu0)]; exact hcu0
                    have q1 := hP.cell (i := q * 256 + x) (by omega)
                    have qf := hP.free
                    have HPn := hide (hP.put (q * 256 + x) (iv (q * 256 + x)))
                    have HSn := hide (hS.later (Below.setCell (Below.refl (w.heap.size + 1) wr) (p := ⟨pb, q * 256 + x, none⟩) (by have := HPB.out; simp; omega) (.int .u32 (iv (q * 256 + x)))))
                    clear hP hS hz hcu hcu0
                    go_wp2_with fail
                    go_region
                    have HPm : Hid (PoolAt (wr.setCell ⟨pb, q * 256 + x, none⟩ (.int .u32 (iv (q * 256 + x)))).drew pb (fillv iv n3 (q * 256 + (x + 1)))) := by
                      show PoolAt _ _ _
                      rw [← Nat.add_assoc, ← fillv_in iv n3 _ hin]; exact HPn.out.of_block rfl
                    have HSm : Hid (S0 w (wr.setCell ⟨pb, q * 256 + x, none⟩ (.int .u32 (iv (q * 256 + x)))).drew sz) := ⟨HSn.out.bel.drew, HSn.out.szs⟩
                    have HZm : Hid ((wr.setCell ⟨pb, q * 256 + x, none⟩ (.int .u32 (iv (q * 256 + x)))).drew.heap.size = pb + 1) := by
                      show _ = _
                      have := HZ.out
                      simpa [World.setCell, World.drew] using this
                    clear HPn HSn HP HS HZ q1 qf
                    generalize (wr.setCell ⟨pb, q * 256 + x, none⟩ (.int .u32 (iv (q * 256 + x)))).drew = W9 at *
                    go_wp2_with fail
                    go_roundw
                    case rel => exact ⟨x + 1, by omega, by go_num, HPm.out, HSm.out, HZm.out⟩
                    case measure => simp [intOf]; omega
                  · clear hP hS hz
                    have hin' : n3 ≤ q * 256 + x := by omega
                    go_wp2_with fail
                    go_roundw
                    case rel => exact ⟨x + 1, by omega, by go_num, by rw [← Nat.add_assoc, ← fillv_out iv n3 _ hin]; exact HP.out, HS.out, HZ.out⟩
                    case measure => simp [intOf]; omega
                · have : x = 256 := by omega
                  subst this
                  have HP := hide hP
                  have HS := hide hS
                  have HZ := hide hz
                  clear hP hS hz
                  go_wp2_with fail
                  go_roundw
                  case rel => exact ⟨q + 1, by omega, by go_num, by rw [Nat.succ_mul]; exact HP.out, HS.out, HZ.out⟩
                  case measure => simp [intOf]; omega
            · have : q = 3 := by omega
              subst this
              have HP := hide hP
              have HS := hide hS
              have HZ := hide hz
              clear hP hS hz
              go_wp2_with fail
              go_meet
              case rel => exact ⟨HP.out, HS.out, HZ.out⟩
      case rest =>
        clear HP1 HS1 hz1
        obtain ⟨hP2, hS2, hz2⟩ := hcut
        have HP2 := hide hP2
        have HS2 := hide hS2
        clear hP2 hS2
        obtain ⟨v0, hv0⟩ : ∃ v0, fillv iv n3 768 = v0 := ⟨_, rfl⟩
        rw [hv0] at HP2
        clear hv0
        obtain ⟨i43, hi43, hz43, hs43, hy43⟩ := info_parts info43
        have hg4 : (wc.alloc (Obj.cells (pv fun _ => 0) 31)).heap[pb + 1]? = some (.cells (pv fun _ => 0) 31 (0, 0)) := by rw [← hz2]; exact heap_alloc_new wc _
        go_upto_region 22 with (first
          | (refine at_op (.load 31 (.tmp 13)) rfl ?_; refine wpList_load_pool rfl _ rfl pb rfl v0 HP2.out ?_)
          | (refine at_op (.store 31 (.tmp 17) (.tmp 91)) rfl ?_; refine wpList_store_row rfl 31 _ _ rfl (pb + 1) (pv v0) rfl rfl 31 (pv fun _ => 0) hg4 (by rw [pv_size]; exact s31) (by rw [pv_size, pv_size]) (one31 v0) ?_))
        have hBel : Below (pb + 1) wc ((wc.alloc (Obj.cells (pv fun _ => 0) 31)).setRow (pb + 1) (pv v0)) := by
          refine below_setRow ?_ (Nat.le_refl _) _
          exact (Below.refl _ _).alloc (by omega) _
        have hE3 : PoolAt ((wc.alloc (Obj.cells (pv fun _ => 0) 31)).setRow (pb + 1) (pv v0)) (pb + 1) v0 := setRow_heap _ _ _ _ _ _ hg4
        have hP3 : PoolAt ((wc.alloc (Obj.cells (pv fun _ => 0) 31)).setRow (pb + 1) (pv v0)) pb v0 := HP2.out.of_block (hBel.block pb (by omega))
        have hS3 : S0 w ((wc.alloc (Obj.cells (pv fun _ => 0) 31)).setRow (pb + 1) (pv v0)) sz := HS2.out.later (hBel.mono (by have := HPB.out; omega))
        have hz3 : ((wc.alloc (Obj.cells (pv fun _ => 0) 31)).setRow (pb + 1) (pv v0)).heap.size = pb + 2 := by
          simp [World.setRow, hz2]
        have HE3 := hide hE3
        have HP3 := hide hP3
        have HS3 := hide hS3
        clear hE3 hP3 hS3 hBel hg4 HP2 HS2
        generalize (wc.alloc (Obj.cells (pv fun _ => 0) 31)).setRow (pb + 1) (pv v0) = W3 at *
        clear hz2
        go_upto_block 6 with (at_make; refine wpList_make_full _ rfl _ _ _ rfl (pb + 2) 43 i43 _ 2 Ybad.underlying32 hi43 hz43 hs43 _ _ _ _ n rfl rfl (by rfl) (by rfl) (by rw [hy43]; omega) (by unfold maxLen; omega) (by omega) ?_)
        intro w4 hown hgrow
        have hb4 : Below W3.heap.size W3 w4 := (Below.refl _ _).grown hgrow (Nat.le_refl _) (by simp)
        have hrb : Rb (pb + 2) 43 2 w4 (pb + 2) n _ := Rb.made rfl (by omega) hown
        obtain ⟨I, hI⟩ : ∃ I, mkI al sz n fst m lst own K Bf = I := ⟨_, rfl⟩
        have HOKI : Hid (I.ok c) := by
          show I.ok c
          rw [← hI]; exact HOK.out HM.out
        have eIf : ∀ i, I.f i = 2 + (fst i % 62).toNat := fun i => by rw [← hI]; rfl
        have eIm : I.m = m := by rw [← hI]; rfl
        have eIn : I.n = n := by rw [← hI]; rfl
        have eIl : I.lst = lst := by rw [← hI]; rfl
        have eIp : ∀ i j, I.p i j = (own i j % 3).toNat := fun i j => by rw [← hI]; rfl
        have eIs : I.sz = sz := by rw [← hI]; rfl
        have eIa : I.al = al := by rw [← hI]; rfl
        have hBd : Bd w w4 pb 0 I v0 (fun _ => 0) (fun _ _ => 0) := by
          have hp := HPB.out
          refine ⟨by rw [eIs]; exact HS3.out.later (hb4.mono (by omega)), hp, HP3.out.of_block (hb4.block _ (by omega)), HE3.out.of_block (hb4.block _ (by omega)), ⟨_, by rw [eIn]; exact hrb, by intro i hi; omega⟩, by intro i hi; omega, by intro i hi; omega⟩
        have HBD := hide hBd
        have EIF := hide eIf
        have EIM := hide eIm
        have EIN := hide eIn
        have EIL := hide eIl
        have EIP := hide eIp
        have EIS := hide eIs
        have EIA := hide eIa
        clear hown hgrow hb4 hrb hBd HP3 HE3 HS3 hz3 hI eIf eIm eIn eIl eIp eIs eIa HOK
        go_upto_block 6 with fail
        go_cut [97] (fun s W => ∃ gb gc, Bd w W pb n I v0 gb gc)
        case first =>
          as_aux_lemma =>
            obtain ⟨i37, hi37, hz37, hs37, hy37⟩ := info_parts info37
            go_wp2_with fail
            go_loopw [97] (fun s W => ∃ (i : Nat) (gb : Nat → Nat) (gc : Nat → Nat → Nat), i ≤ n ∧ s = .int .i64 i ∧ Bd w W pb i I v0 gb gc) (fun s _ => n - (intOf s).toNat)
            case atStart => exact ⟨0, _, _, by omega, rfl, HBD.out⟩
            case round =>
              clear HBD
              obtain ⟨i, gb, gc, hi, rfl, hBd⟩ := hrel
              by_cases hlt : i < n
              · obtain ⟨b, off, rfl, hbw, hcl⟩ := HA.out.cells (by omega)
                obtain ⟨hc0, hc1⟩ := hcl i hlt
                obtain ⟨fb0, fb1⟩ := HA.out.fb i hlt
                have hbel := hBd.s0.bel
                have k0 : wr.cell? ⟨b, off + i * 2, none⟩ = some (.int .u8 (fst i)) := by rw [hbel.cell (p := ⟨b, off + i * 2, none⟩) hbw]; exact hc0
                have k1 : wr.cell? ⟨b, off + i * 2 + 1, none⟩ = some (.slice (ab i) (m i) (cb i)) := by rw [hbel.cell (p := ⟨b, off + i * 2 + 1, none⟩) hbw]; exact hc1
                have hmi := HM.out i hlt
                have HBD := hide hBd
                have HBW := hide hbel
                have hGB3 : pb + 3 ≤ wr.heap.size := by
                  obtain ⟨F, hr, _⟩ := hBd.r
                  have := hr.lt; omega
                clear hBd hbel hc0 hc1 hcl
                go_wp2_with (at_make; refine wpList_make_full _ rfl _ _ _ rfl wr.heap.size 37 i37 _ 1 Ybad.underlying33 hi37 hz37 hs37 _ _ _ _ (m i) rfl rfl (by rfl) (by rfl) (by rw [hy37]; omega) (by unfold maxLen; omega) (Nat.le_refl _) ?_)
                intro w5 hown hgrow
                have hb5 : Below wr.heap.size wr w5 := (Below.refl _ _).grown hgrow (Nat.le_refl _) (by simp)
                have hrb : Rb wr.heap.size 37 1 w5 wr.heap.size (m i) _ := Rb.made (z := #[Value.pointer none]) rfl (by omega) (by rw [Nat.mul_one]; exact hown)
                have hBi : Bi w5 pb (I.f i) wr.heap.size (m i) 0 (lst i) (I.p i) (fun _ => 0) := ⟨⟨_, ⟨hGB3, hrb.row, hrb.len, hrb.at_⟩, by intro q hq; omega⟩, by intro q hq; omega, by intro q hq; omega⟩
                have HB5 := hide hb5
                have HBI := hide hBi
                have HF := hide (EIF.out i)
                clear hown hgrow hb5 hrb hBi
                obtain ⟨f, hf⟩ : ∃ f : Nat, I.f i = f := ⟨_, rfl⟩
                rw [hf] at HF HBI
                have hff : 2 + fst i % 62 = (f : Int) := by have := HF.out; omega
                have HFI := hide hf
                clear hf
                obtain ⟨GB, hGB⟩ : ∃ g, wr.heap.size = g := ⟨_, rfl⟩
                have HGB := hide hGB
                rw [hGB] at HB5 HBI hGB3 ⊢
                clear hGB
                have k15 : w5.cell? ⟨b, off + i * 2 + 1, none⟩ = some (.slice (ab i) (m i) (cb i)) := by
                  rw [HB5.out.cell (p := ⟨b, off + i * 2 + 1, none⟩) (by have := World.block_lt_of_cell? _ _ k1; have := HGB.out; omega)]; exact k1
                clear k0 k1
                obtain ⟨AB, hAB⟩ : ∃ x, ab i = x := ⟨_, rfl⟩
                obtain ⟨mi, hmi'⟩ : ∃ x, m i = x := ⟨_, rfl⟩
                have hbands := HA.out.bands i hlt
                have hlb := fun j hj => HA.out.lb i j hlt hj
                rw [hAB] at k15 hbands
                rw [hmi'] at k15 hbands hmi HBI hlb ⊢
                have HBN := hide hbands
                have HLB := hide hlb
                have HMI := hide hmi'
                clear hAB hbands hlb hmi'
                go_wp2_with fail
                rw [hff]
                clear hff fb0 fb1 k15
                go_loopw [121] (fun s W => ∃ (j : Nat) (gcj : Nat → Nat), j ≤ mi ∧ s = .int .i64 j ∧ Bi W pb f GB mi j (lst i) (I.p i) gcj ∧ Below GB wr W) (fun s _ => mi - (intOf s).toNat)
                case atStart => exact ⟨0, _, by omega, rfl, HBI.out, HB5.out⟩
                case round =>
                  clear HBI HB5
                  obtain ⟨j, gcj, hj, rfl, hBi, hB5⟩ := hrel
                  by_cases hltj : j < mi
                  · obtain ⟨b2, off2, rfl, hb2w, hcl2⟩ := HBN.out (by omega)
                    obtain ⟨hc0, hc1⟩ := hcl2 j hltj
                    obtain ⟨l0, l1, o0, o1⟩ := HLB.out j hltj
                    have hbel2 := HBW.out.trans (hB5.mono (by have := HBW.out.size; have := HGB.out; omega))
                    have k0 : wr.cell? ⟨b2, off2 + j * 2, none⟩ = some (.int .i8 (lst i j)) := by rw [hbel2.cell (p := ⟨b2, off2 + j * 2, none⟩) hb2w]; exact hc0
                    have k1 : wr.cell? ⟨b2, off2 + j * 2 + 1, none⟩ = some (.int .u8 (own i j)) := by rw [hbel2.cell (p := ⟨b2, off2 + j * 2 + 1, none⟩) hb2w]; exact hc1
                    obtain ⟨F1, hr1, hF1⟩ := hBi.row
                    have hGBl := hr1.lt
                    obtain ⟨u0, hu0⟩ : ∃ u, wr.cell? ⟨GB, j, none⟩ = some u := by
                      have := (hr1.there hltj 0 (by omega)).1
                      simp only [Nat.mul_one, Nat.add_zero] at this
                      exact Option.isSome_iff_exists.1 this
                    have hfr : wr.frozen? ⟨GB, j, none⟩ = false := by
                      obtain ⟨cur, hg, _⟩ := hr1.row
                      exact frozen_of_row wr _ _ _ _ hg
                    obtain ⟨p, hp⟩ : ∃ p : Nat, (own i j % 3).toNat = p := ⟨_, rfl⟩
                    have hpp : own i j % 3 = (p : Int) := by omega
                    have hp3 : p < 3 := by omega
                    have HSTEP := hide (hBi.step hltj (.cells #[.int .i8 (lst i j), .int .u8 (own i j)] 36))
                    have HB6 := hide (((hB5.setCell (p := ⟨GB, j, none⟩) (Nat.le_refl _) (.pointer (some ⟨wr.heap.size + 1, 0, none⟩))).alloc (by simp [World.setCell]; omega) (.cells #[.int .i8 (lst i j), .int .u8 (own i j)] 36)).alloc (by simp [World.setCell]; omega) (.cells (bandC pb f (lst i j) (I.p i j)) 41))
                    have HPJ : Hid (I.p i j = p) := by show _ = _; rw [EIP.out, hp]
                    rw [HPJ.out] at HSTEP HB6
                    generalize lst i j = ls at *
                    generalize own i j = ow at *
                    clear hBi hB5 hbel2 hc0 hc1 hcl2 hr1 hF1 hp
                    go_wp2_with fail
                    go_region
                    go_wp2_with fail
                    go_roundw
                    case rel => exact ⟨j + 1, _, by omega, by go_num, Bi.drew HSTEP.out, HB6.out.drew⟩
                    case measure => simp [intOf]; omega
                  · have : j = mi := by omega
                    subst this
                    have hiI : i < I.n := by have := EIN.out; omega
                    have hB5' := hB5
                    rw [← HGB.out] at hB5'
                    have hBi' : Bi wr pb (I.f i) GB (I.m i) (I.m i) (I.lst i) (I.p i) gcj := by rw [HFI.out, EIM.out, HMI.out, EIL.out]; exact hBi
                    have hstep := HBD.out.step hiI hB5' HGB.out hBi'
                    rw [HFI.out, EIM.out, HMI.out] at hstep
                    obtain ⟨F2, hr2, _⟩ := (HBD.out.below hB5').r
                    have ht2 := hr2.there hiI
                    have HT2 := hide ht2
                    have HSTEP := hide hstep
                    clear hstep hBi hBi' hB5 hB5' hr2 ht2 HBD
                    go_wp2_with (refine at_op (.store 43 (.tmp 146) (.tmp 145)) rfl ?_; refine wpList_store_mid rfl 43 _ _ rfl (pb + 2) (i * 2) #[.int .i64 f, .slice (some ⟨GB, 0, none⟩) j j] rfl rfl HT2.out s43 (one43 _ _ _ _) ?_)
                    go_wp2_with fail
                    go_roundw
                    case rel => exact ⟨i + 1, _, _, by omega, by go_num, HSTEP.out⟩
                    case measure => simp [intOf]; omega
              · have : i = n := by omega
                subst this
                have HBD := hide hBd
                clear hBd
                go_wp2_with fail
                go_meet
                case rel => exact ⟨gb, gc, HBD.out⟩
        case rest =>
          clear HBD
          obtain ⟨gb, gc, hBd⟩ := hcut
          obtain ⟨cells, hbuild, _, hl0, hl1, hl2, hl3, hlh, hld⟩ := lev_built al (some ⟨pb + 2, 0, none⟩) n n
          have hlev : Lev cells al (some ⟨pb + 2, 0, none⟩) n n := ⟨hl0, hl1, hl2, hl3, hlh, hld⟩
          have hBd' : Bd w wc pb I.n I v0 gb gc := by rw [EIN.out]; exact hBd
          obtain ⟨hfx, hpe⟩ := Fx.made hBd' (cells := cells) (by rw [EIA.out, EIN.out]; exact hlev)
          rw [EIS.out] at hfx hpe
          have hszr : wc.rangeAt w.heap.size 0 (szL sz) := fun j u hu => by
            have h9 := hBd.s0.szs
            rw [EIS.out] at h9
            rw [Nat.zero_add, cell_of_row _ _ _ _ _ _ h9]; simpa using hu
          have hszr1 : (wc.alloc (Obj.cells cells 49)).rangeAt w.heap.size 0 (szL sz) := World.rangeAt_alloc hszr _
          have HFX := hide hfx
          have HPE := hide hpe
          have HSR := hide hszr1
          clear hl0 hl1 hl2 hl3 hlh hld hBd hBd' hfx hpe hszr hszr1 hlev
          go_upto_block 10 with (first
            | (refine at_op (.build 49 #[(0, .tmp 148), (3, .tmp 149)]) rfl ?_; refine wpList_build_as rfl _ _ rfl #[(0, .int .i64 al), (3, .slice (some ⟨pb + 2, 0, none⟩) n n)] rfl cells hbuild ?_)
            | (refine at_op (.load 23 (.tmp 7)) rfl ?_; refine wpList_load_mid rfl 23 _ rfl w.heap.size 0 rfl (szL sz) _ HSR.out Ybad.underlying23 rfl (by rw [szL_len]; exact s23) ?_)
            | (refine at_op (.build 55 #[(4, .tmp 152)]) rfl ?_; refine wpList_build_as rfl _ _ rfl #[(4, .agg (szL sz).toArray)] rfl (acL sz).toArray (build55 sz) ?_))
          obtain ⟨L, hL⟩ : ∃ L, wc.heap.size = L := ⟨_, rfl⟩
          rw [hL] at HFX ⊢
          generalize (wc.alloc (Obj.cells cells 49)).alloc (Obj.cells (acL sz).toArray 55) = W5 at *
          clear hL HSR hbuild
          go_cut [157] (fun s W => PoolAt W (pb + 1) (startsTo I n v0) ∧ Kp (pb + 1) W5 W)
          case first =>
            as_aux_lemma =>
              go_wp2_with fail
              go_loopw [157] (fun s W => ∃ i : Nat, i ≤ n ∧ s = .int .i64 i ∧ PoolAt W (pb + 1) (startsTo I i v0) ∧ Kp (pb + 1) W5 W) (fun s _ => n - (intOf s).toNat)
              case atStart => exact ⟨0, by omega, rfl, HPE.out, Kp.refl _ _⟩
              case round =>
                clear HPE
                obtain ⟨i, hi, rfl, hP, hK⟩ := hrel
                by_cases hlt : i < n
                · obtain ⟨b, off, rfl, hbw, hcl⟩ := HA.out.cells (by omega)
                  obtain ⟨hc0, hc1⟩ := hcl i hlt
                  obtain ⟨fb0, fb1⟩ := HA.out.fb i hlt
                  have hfx := HFX.out.copy hK
                  have hbel := hfx.bel
                  have k0 : wr.cell? ⟨b, off + i * 2, none⟩ = some (.int .u8 (fst i)) := by rw [hbel.cell (p := ⟨b, off + i * 2, none⟩) hbw]; exact hc0
                  have k1 : wr.cell? ⟨b, off + i * 2 + 1, none⟩ = some (.slice (ab i) (m i) (cb i)) := by rw [hbel.cell (p := ⟨b, off + i * 2 + 1, none⟩) hbw]; exact hc1
                  have hiI : i < I.n := by have := EIN.out; omega
                  have hmi := HM.out i hlt
                  obtain ⟨f, hf⟩ : ∃ f : Nat, I.f i = f := ⟨_, rfl⟩
                  have hff : 2 + fst i % 62 = (f : Int) := by have := EIF.out i; omega
                  obtain ⟨f2, f63⟩ := HOKI.out.f2 i hiI
                  rw [hf] at f2 f63
                  have hszs : ∀ q, q < 64 → wr.cell? ⟨w.heap.size, q, none⟩ = some (.int .u8 (sz q)) := fun q hq => by
                    have h9 := hfx.szs
                    rw [EIS.out] at h9
                    rw [cell_of_row _ _ _ _ _ _ h9]; simpa using szL_get sz q hq
                  have HFI := hide hf
                  have HP := hide hP
                  have HK := hide hK
                  have HSS := hide hszs
                  have HBW := hide hbel
                  clear hf hP hK hfx hszs hbel hc0 hc1 hcl
                  go_upto_block 12 with fail
                  clear hff fb0 fb1 k0
                  obtain ⟨kv, hkv⟩ : ∃ kv : Int, (match I.K i with | none => (-1 : Int) | some k => (k : Int)) = kv := ⟨_, rfl⟩
                  have HKV := hide hkv
                  clear hkv
                  go_cut [28] (fun s W => s = .int .i64 kv ∧ W = wr)
                  case first =>
                   as_aux_lemma =>
                    have HKS := hide (HOKI.out.kSome i)
                    have HKN := hide (HOKI.out.kNone i)
                    cases hk : I.K i with
                    | none =>
                      have hno := HKN.out hiI hk
                      have hkv : (-1 : Int) = kv := by have := HKV.out; rw [hk] at this; exact this
                      subst hkv
                      rw [HFI.out] at hno
                      have HNO := hide hno
                      clear hno hk HKS HKN HKV
                      go_wp2_with fail
                      go_loopw [28, 29] (fun s x W => ∃ j : Nat, f ≤ j ∧ j ≤ 64 ∧ s = .int .i64 (-1) ∧ x = .int .i64 j ∧ W = wr) (fun _ x _ => 64 - (intOf x).toNat)
                      case atStart => exact ⟨f, by omega, by omega, rfl, rfl, rfl⟩
                      case round =>
                        obtain ⟨j, hj1, hj2, rfl, rfl, hwr⟩ := hrel
                        obtain rfl := hwr.symm
                        by_cases hltj : j < 64
                        · have hbit := HNO.out j hj1 hltj
                          have HBIT := hide (bit_any c j wr hc hltj)
                          rw [hbit] at HBIT
                          clear hbit
                          go_wp2_with fail
                          refine HBIT.out.mono ?_
                          rintro e w' ⟨rfl, hw'⟩
                          obtain rfl := hw'.symm
                          go_wp2_with fail
                          go_roundw
                          case rel => exact ⟨j + 1, by omega, by omega, rfl, by go_num, trivial⟩
                          case measure => simp [intOf]; omega
                        · have : j = 64 := by omega
                          subst this
                          go_wp2_with fail
                          go_meet
                          case rel => exact ⟨rfl, rfl⟩
                    | some k =>
                      have hisk := HKS.out k hiI hk
                      have hkv : (k : Int) = kv := by have := HKV.out; rw [hk] at this; exact this
                      subst hkv
                      rw [HFI.out] at hisk
                      obtain ⟨hk1, hk2, hk3, hk4⟩ := hisk
                      have HK4 := hide hk4
                      have HK3 := hide hk3
                      clear hk4 hk3 hk HKS HKN HKV
                      go_wp2_with fail
                      go_loopw [28, 29] (fun s x W => ∃ j : Nat, f ≤ j ∧ j ≤ k ∧ s = .int .i64 (-1) ∧ x = .int .i64 j ∧ W = wr) (fun _ x _ => 64 - (intOf x).toNat)
                      case atStart => exact ⟨f, by omega, by omega, rfl, rfl, rfl⟩
                      case round =>
                        obtain ⟨j, hj1, hj2, rfl, rfl, hwr⟩ := hrel
                        obtain rfl := hwr.symm
                        have hj64 : j < 64 := by omega
                        have HBIT := hide (bit_any c j wr hc hj64)
                        by_cases hltj : j < k
                        · rw [HK4.out j hj1 hltj] at HBIT
                          go_wp2_with fail
                          refine HBIT.out.mono ?_
                          rintro e w' ⟨rfl, hw'⟩
                          obtain rfl := hw'.symm
                          go_wp2_with fail
                          go_roundw
                          case rel => exact ⟨j + 1, by omega, by omega, rfl, by go_num, trivial⟩
                          case measure => simp [intOf]; omega
                        · have : j = k := by omega
                          subst this
                          rw [HK3.out] at HBIT
                          go_wp2_with fail
                          refine HBIT.out.mono ?_
                          rintro e w' ⟨rfl, hw'⟩
                          obtain rfl := hw'.symm
                          go_wp2_with fail
                          go_meet
                          case rel => exact ⟨rfl, rfl⟩
                  case rest =>
                    obtain ⟨rfl, hwc⟩ := hcut
                    obtain rfl := hwc.symm
                    cases hk : I.K i with
                    | none =>
                      have hkv : (-1 : Int) = kv := by have := HKV.out; rw [hk] at this; exact this
                      subst hkv
                      have HST : Hid (startsTo I (i + 1) v0 = startsTo I i v0) := by
                        show _ = _
                        rw [startsTo, stepS, hk]
                      clear hk HKV
                      go_wp2_with fail
                      go_roundw
                      case rel => exact ⟨i + 1, by omega, by go_num, by rw [HST.out]; exact HP.out, HK.out⟩
                      case measure => simp [intOf]; omega
                    | some k =>
                      have hkv : (k : Int) = kv := by have := HKV.out; rw [hk] at this; exact this
                      subst hkv
                      have hisk := HOKI.out.kSome i k hiI hk
                      have hisb := HOKI.out.isB i hiI
                      rw [HFI.out] at hisk hisb
                      obtain ⟨hk1, hk2, _, _⟩ := hisk
                      obtain ⟨bb, hbb⟩ : ∃ x, I.Bf i = x := ⟨_, rfl⟩
                      rw [hbb] at hisb
                      have hb1 := hisb.1
                      have HISB := hide hisb
                      have HBB := hide hbb
                      have HKK := hide hk
                      clear hisb hbb hk HKV
                      go_upto_block 14 with fail
                      go_cut [30] (fun s W => s = .int .i64 bb ∧ W = wr)
                      case first =>
                       as_aux_lemma =>
                        go_wp2_with fail
                        go_loopw [30, 31] (fun s x W => ∃ j : Nat, bb ≤ j ∧ j + 1 ≤ f ∧ s = .int .i64 0 ∧ x = .int .i64 j ∧ W = wr) (fun _ x _ => (intOf x).toNat)
                        case atStart => exact ⟨f - 1, by omega, by omega, rfl, by congr 1; omega, rfl⟩
                        case round =>
                          obtain ⟨j, hj1, hj2, rfl, rfl, hwr⟩ := hrel
                          obtain rfl := hwr.symm
                          by_cases hj0 : j = 0
                          · subst hj0
                            have : bb = 0 := by omega
                            subst this
                            go_wp2_with fail
                            go_meet
                            case rel => exact ⟨rfl, rfl⟩
                          · have hj64 : j < 64 := by omega
                            have hjp : 1 ≤ j := by omega
                            have HBIT := hide (bit_any c j wr hc hj64)
                            by_cases hltj : bb < j
                            · rw [HISB.out.2.2 j hltj (by omega)] at HBIT
                              go_wp2_with fail
                              refine HBIT.out.mono ?_
                              rintro e w' ⟨rfl, hw'⟩
                              obtain rfl := hw'.symm
                              go_wp2_with fail
                              go_roundw
                              case rel => exact ⟨j - 1, by omega, by omega, rfl, by congr 1; omega, trivial⟩
                              case measure => simp [intOf]; omega
                            · have : bb = j := by omega
                              subst this
                              rw [HISB.out.2.1 hjp] at HBIT
                              go_wp2_with fail
                              refine HBIT.out.mono ?_
                              rintro e w' ⟨rfl, hw'⟩
                              obtain rfl := hw'.symm
                              go_wp2_with fail
                              go_meet
                              case rel => exact ⟨rfl, rfl⟩
                      case rest =>
                        obtain ⟨rfl, hwc⟩ := hcut
                        obtain rfl := hwc.symm
                        obtain ⟨ct, hct⟩ : ∃ ct : Nat, k - bb - 1 = ct := ⟨_, rfl⟩
                        obtain ⟨rn, hrn⟩ : ∃ rn : Nat, k - f = rn := ⟨_, rfl⟩
                        have e1 : (k : Int) - (bb : Int) - 1 = (ct : Int) := by omega
                        have e2 : (k : Int) - (f : Int) = (rn : Int) := by omega
                        have hct64 : ct < 64 := by omega
                        have hrn64 : rn < 64 := by omega
                        have HCT := hide hct
                        have HRN := hide hrn
                        clear hct hrn
                        by_cases ecr : ct = rn
                        · subst ecr
                          have HST : Hid (startsTo I (i + 1) v0 = startsTo I i v0) := by
                            show _ = _
                            rw [startsTo, stepS, HKK.out]
                            simp only
                            rw [HBB.out, HFI.out, HCT.out, HRN.out, if_pos rfl]
                          go_wp2_with fail
                          go_roundw
                          case rel => exact ⟨i + 1, by omega, by go_num, by rw [HST.out]; exact HP.out, HK.out⟩
                          case measure => simp [intOf]; omega
                        · have z1 := HSS.out k hk2
                          obtain ⟨zb0, zb1⟩ := HSZ.out k hk2
                          go_upto_block 16 with fail
                          obtain ⟨sv, hsv⟩ : ∃ x, sOf I k = x := ⟨_, rfl⟩
                          have hs16 : sv < 16 := by rw [← hsv]; exact sOf_lt I k
                          rw [show (wrap64 ((wrap64 (sz k - al)).tmod 16 + 16)).tmod 16 = (sv : Int) by
                            rw [s_eq, ← hsv]; unfold sOf wrap64; rw [EIS.out, EIA.out]; omega]
                          have HSV := hide hsv
                          clear hsv z1 zb0 zb1
                          obtain ⟨AB, hAB⟩ : ∃ x, ab i = x := ⟨_, rfl⟩
                          obtain ⟨mi, hmi'⟩ : ∃ x, m i = x := ⟨_, rfl⟩
                          have hbands := HA.out.bands i hlt
                          have hlb := fun j hj => HA.out.lb i j hlt hj
                          rw [hAB] at hbands k1 ⊢
                          rw [hmi'] at hbands hlb hmi k1 ⊢
                          have HBN := hide hbands
                          have HLB := hide hlb
                          have HMI := hide hmi'
                          clear hAB hbands hlb hmi' k1 e1 e2
                          go_wp2_with fail
                          go_loopw [214] (fun s W => ∃ j : Nat, j ≤ mi ∧ s = .int .i64 j ∧ PoolAt W (pb + 1) (bandsTo I i k ct rn j (startsTo I i v0)) ∧ Kp (pb + 1) wr W) (fun s _ => mi - (intOf s).toNat)
                          case atStart => exact ⟨0, by omega, rfl, HP.out, Kp.refl _ _⟩
                          case round =>
                            obtain ⟨j, hj, rfl, hPj, hKj⟩ := hrel
                            by_cases hltj : j < mi
                            · obtain ⟨b2, off2, rfl, hb2w, hcl2⟩ := HBN.out (by omega)
                              obtain ⟨hc0, hc1⟩ := hcl2 j hltj
                              obtain ⟨l0, l1, o0, o1⟩ := HLB.out j hltj
                              have hbw2 := HBW.out
                              have hbel2 : Below w.heap.size w wr := hbw2.trans (hKj.below hbw2.size (by have := HPB.out; omega))
                              have k0 : wr.cell? ⟨b2, off2 + j * 2, none⟩ = some (.int .i8 (lst i j)) := by rw [hbel2.cell (p := ⟨b2, off2 + j * 2, none⟩) hb2w]; exact hc0
                              have k1 : wr.cell? ⟨b2, off2 + j * 2 + 1, none⟩ = some (.int .u8 (own i j)) := by rw [hbel2.cell (p := ⟨b2, off2 + j * 2 + 1, none⟩) hb2w]; exact hc1
                              have HPj := hide hPj
                              have HKj := hide hKj
                              clear hPj hKj hbel2 hc0 hc1 hcl2 hbw2
                              go_upto_region 61 with fail
                              obtain ⟨p, hp⟩ : ∃ p : Nat, (own i j % 3).toNat = p := ⟨_, rfl⟩
                              have hpp : own i j % 3 = (p : Int) := by omega
                              have hp3 : p < 3 := by omega
                              have HPJ : Hid (I.p i j = p) := by show _ = _; rw [EIP.out, hp]
                              have HLJ : Hid (I.lst i j = lst i j) := by show _ = _; rw [EIL.out]
                              generalize lst i j = ls at *
                              generalize own i j = ow at *
                              clear hp k0 k1
                              have t0 : (wr.alloc (Obj.cells #[Value.int IntKind.i8 ls, Value.int IntKind.u8 ow] 36)).cell? ⟨wr.heap.size, 0, none⟩ = some (.int .i8 ls) := by rw [cell_of_row _ _ _ _ _ _ (heap_alloc_new wr _)]; rfl
                              have t1 : (wr.alloc (Obj.cells #[Value.int IntKind.i8 ls, Value.int IntKind.u8 ow] 36)).cell? ⟨wr.heap.size, 1, none⟩ = some (.int .u8 ow) := by rw [cell_of_row _ _ _ _ _ _ (heap_alloc_new wr _)]; rfl
                              have HPt := hide (HPj.out.of_block (W' := wr.alloc (Obj.cells #[Value.int IntKind.i8 ls, Value.int IntKind.u8 ow] 36)) (Below.heap_alloc _ _ _ HPj.out.lt))
                              have HKt := hide (HKj.out.alloc (Obj.cells #[Value.int IntKind.i8 ls, Value.int IntKind.u8 ow] 36))
                              have HTN : Hid (wr.heap.size ≠ pb + 1) := by show _ ≠ _; have := HPj.out.lt; omega
                              clear HPj HKj
                              generalize wr.alloc (Obj.cells #[Value.int IntKind.i8 ls, Value.int IntKind.u8 ow] 36) = Wt at *
                              generalize wr.heap.size = T1 at *
                              by_cases hkl : (k : Int) ≤ ls
                              · have HBB2 : Hid (bandsTo I i k ct rn (j + 1) (startsTo I i v0) = stepB sv ct rn p (bandsTo I i k ct rn j (startsTo I i v0))) := by
                                  show _ = _
                                  rw [bandsTo, HLJ.out, if_pos hkl, HPJ.out, HSV.out]
                                generalize bandsTo I i k ct rn j (startsTo I i v0) = V at *
                                obtain ⟨x1, hx1⟩ : ∃ x, ct % 16 * 16 + sv = x := ⟨_, rfl⟩
                                obtain ⟨x2, hx2⟩ : ∃ x, rn % 16 * 16 + sv = x := ⟨_, rfl⟩
                                have hx1b : x1 < 256 := by omega
                                have hx2b : x2 < 256 := by omega
                                have ho1 : (ct : Int) % 16 * 16 + (sv : Int) = (x1 : Int) := by omega
                                have ho2 : (rn : Int) % 16 * 16 + (sv : Int) = (x2 : Int) := by omega
                                have HX1 := hide hx1
                                have HX2 := hide hx2
                                clear hx1 hx2
                                have q1 := HPt.out.cell (i := p * 256 + x1) (by omega)
                                have qf := HPt.out.free
                                go_wp2_with fail
                                go_region
                                have HPa := hide ((HPt.out.put (p * 256 + x1) ((V (p * 256 + x1) - 1) % 4294967296)).of_block (W' := (Wt.setCell ⟨pb + 1, p * 256 + x1, none⟩ (.int .u32 ((V (p * 256 + x1) - 1) % 4294967296))).drew) rfl)
                                have hka : Kp (pb + 1) Wt (Wt.setCell ⟨pb + 1, p * 256 + x1, none⟩ (.int .u32 ((V (p * 256 + x1) - 1) % 4294967296))).drew := ((Kp.refl (pb + 1) Wt).set _ _).drew
                                have HKa := hide (HKt.out.trans hka)
                                clear hka HPt HKt q1 qf t0 t1
                                generalize (Wt.setCell ⟨pb + 1, p * 256 + x1, none⟩ (.int .u32 ((V (p * 256 + x1) - 1) % 4294967296))).drew = Wa at *
                                obtain ⟨V1, hV1⟩ : ∃ V1, upd V (p * 256 + x1) ((V (p * 256 + x1) - 1) % 4294967296) = V1 := ⟨_, rfl⟩
                                rw [hV1] at HPa
                                have q1 := HPa.out.cell (i := p * 256 + x2) (by omega)
                                have qf := HPa.out.free
                                go_wp2_with fail
                                go_region
                                have HPb := hide ((HPa.out.put (p * 256 + x2) ((V1 (p * 256 + x2) + 1) % 4294967296)).of_block (W' := (Wa.setCell ⟨pb + 1, p * 256 + x2, none⟩ (.int .u32 ((V1 (p * 256 + x2) + 1) % 4294967296))).drew) rfl)
                                have hka : Kp (pb + 1) Wa (Wa.setCell ⟨pb + 1, p * 256 + x2, none⟩ (.int .u32 ((V1 (p * 256 + x2) + 1) % 4294967296))).drew := ((Kp.refl (pb + 1) Wa).set _ _).drew
                                have HKb := hide (HKa.out.trans hka)
                                clear hka HPa HKa q1 qf
                                generalize (Wa.setCell ⟨pb + 1, p * 256 + x2, none⟩ (.int .u32 ((V1 (p * 256 + x2) + 1) % 4294967296))).drew = Wb at *
                                obtain ⟨V2, hV2⟩ : ∃ V2, upd V1 (p * 256 + x2) ((V1 (p * 256 + x2) + 1) % 4294967296) = V2 := ⟨_, rfl⟩
                                rw [hV2] at HPb
                                have q1 := HPb.out.cell (i := p * 256 + 240) (by omega)
                                have qf := HPb.out.free
                                go_wp2_with fail
                                go_region
                                have HPc := hide ((HPb.out.put (p * 256 + 240) ((V2 (p * 256 + 240) + ((rn : Int) / 16 - (ct : Int) / 16)) % 4294967296)).of_block (W' := (Wb.setCell ⟨pb + 1, p * 256 + 240, none⟩ (.int .u32 ((V2 (p * 256 + 240) + ((rn : Int) / 16 - (ct : Int) / 16)) % 4294967296))).drew) rfl)
                                have hka : Kp (pb + 1) Wb (Wb.setCell ⟨pb + 1, p * 256 + 240, none⟩ (.int .u32 ((V2 (p * 256 + 240) + ((rn : Int) / 16 - (ct : Int) / 16)) % 4294967296))).drew := ((Kp.refl (pb + 1) Wb).set _ _).drew
                                have HKc := hide (HKb.out.trans hka)
                                clear hka HPb HKb q1 qf
                                have HSB : Hid (stepB sv ct rn p V = upd V2 (p * 256 + 240) ((V2 (p * 256 + 240) + ((rn : Int) / 16 - (ct : Int) / 16)) % 4294967296)) := by
                                  show _ = _
                                  unfold stepB
                                  simp only [HX1.out, HX2.out, hV1, hV2]
                                generalize (Wb.setCell ⟨pb + 1, p * 256 + 240, none⟩ (.int .u32 ((V2 (p * 256 + 240) + ((rn : Int) / 16 - (ct : Int) / 16)) % 4294967296))).drew = Wc at *
                                go_wp2_with fail
                                go_roundw
                                case rel => exact ⟨j + 1, by omega, by go_num, by rw [HBB2.out, HSB.out]; exact HPc.out, HKc.out⟩
                                case measure => simp [intOf]; omega
                              · have HBB2 : Hid (bandsTo I i k ct rn (j + 1) (startsTo I i v0) = bandsTo I i k ct rn j (startsTo I i v0)) := by
                                  show _ = _
                                  rw [bandsTo, HLJ.out, if_neg hkl]
                                go_wp2_with fail
                                go_roundw
                                case rel => exact ⟨j + 1, by omega, by go_num, by rw [HBB2.out]; exact HPt.out, HKt.out⟩
                                case measure => simp [intOf]; omega
                            · have : j = mi := by omega
                              subst this
                              have HPj := hide hPj
                              have HKj := hide hKj
                              clear hPj hKj
                              have HST : Hid (startsTo I (i + 1) v0 = bandsTo I i k ct rn j (startsTo I i v0)) := by
                                show _ = _
                                rw [startsTo, stepS, HKK.out]
                                simp only
                                rw [HBB.out, HFI.out, HCT.out, HRN.out, if_neg ecr, EIM.out, HMI.out]
                              go_wp2_with fail
                              go_roundw
                              case rel => exact ⟨i + 1, by omega, by go_num, by rw [HST.out]; exact HPj.out, HK.out.trans HKj.out⟩
                              case measure => simp [intOf]; omega
                · have : i = n := by omega
                  subst this
                  have HP := hide hP
                  have HK := hide hK
                  clear hP hK
                  go_wp2_with fail
                  go_meet
                  case rel => exact ⟨HP.out, HK.out⟩
          case rest =>
            obtain ⟨hPE, hKE⟩ := hcut
            have hfx6 := HFX.out.copy hKE
            have HE6 := hide hPE
            have hcnt := count_any wc L (L + 1) pb (pb + 2) I gb gc c v0 HOKI.out (hfx6.ev HT.out) hfx6.gr hfx6.p
            rw [EIN.out] at hcnt
            have HCNT := hide hcnt
            have HFX6 := hide hfx6
            clear hPE hKE hfx6 hcnt HPE HFX
            go_wp2_with fail
            refine HCNT.out.mono ?_
            rintro e W7 ⟨rfl, hP7, hK7⟩
            have hfx7 := HFX6.out.pool hK7 hP7
            have hE7 : PoolAt W7 (pb + 1) (startsTo I n v0) := HE6.out.of_block (hK7.block _ HE6.out.lt (by omega))
            have HFX7 := hide hfx7
            have HE7 := hide hE7
            clear HCNT hP7 hK7 hfx7 hE7 HFX6 HE6
            obtain ⟨vF, hvF⟩ : ∃ vF, startsTo I n v0 = vF := ⟨_, rfl⟩
            rw [hvF] at HFX7 HE7
            clear hvF
            go_upto_region 71 with (first
              | (refine at_op (.load 31 (.tmp 13)) rfl ?_; refine wpList_load_pool rfl _ rfl pb rfl vF HFX7.out.p ?_)
              | (refine at_op (.load 31 (.tmp 17)) rfl ?_; refine wpList_load_pool rfl _ rfl (pb + 1) rfl vF HE7.out ?_)
              | (refine at_op (.binOp .neq 31 (.tmp 270) (.tmp 271) 31) rfl ?_; refine wpList_neq_agg rfl 31 _ _ rfl eqg31 (pv vF) rfl rfl (neq31 vF) ?_))
            have hr55 : W7.rangeAt (L + 1) 0 (acL sz) := fun j u hu => by
              have h9 := HFX7.out.ac
              rw [EIS.out] at h9
              rw [Nat.zero_add, cell_of_row _ _ _ _ _ _ h9]; simpa using hu
            have hr23 : W7.rangeAt w.heap.size 0 (szL sz) := fun j u hu => by
              have h9 := HFX7.out.szs
              rw [EIS.out] at h9
              rw [Nat.zero_add, cell_of_row _ _ _ _ _ _ h9]; simpa using hu
            have he55 := eq55' sz
            simp only [Act.put, List.setIfInBounds_toArray, List.set_cons_zero, List.set_cons_succ]
            refine wp_region_quiet_lit (by kernel_rfl) (by kernel_rfl) ?_
            repeat (first
              | (refine at_quiet (.load 55 (.tmp 274)) rfl ?_; refine wpQuiet_load_mid 55 _ rfl rfl (L + 1) 0 rfl (acL sz) _ hr55 Ybad.underlying55 rfl (by rw [acL_len]; exact s55) ?_; simp only [Act.put, List.setIfInBounds_toArray, List.set_cons_zero, List.set_cons_succ])
              | (refine at_quiet (.load 23 (.tmp 7)) rfl ?_; refine wpQuiet_load_mid 23 _ rfl rfl w.heap.size 0 rfl (szL sz) _ hr23 Ybad.underlying23 rfl (by rw [szL_len]; exact s23) ?_; simp only [Act.put, List.setIfInBounds_toArray, List.set_cons_zero, List.set_cons_succ])
              | (refine at_quiet (.build 55 #[(4, .tmp 276)]) rfl ?_; refine wpQuiet_build 55 _ rfl rfl #[(4, .agg (szL sz).toArray)] rfl (acL sz).toArray (build55 sz) ?_; simp only [Act.put, List.setIfInBounds_toArray, List.set_cons_zero, List.set_cons_succ])
              | go_big_quiet_step (fail))
            refine wpQuiet_nil ?_
            intro _ hw'
            obtain ⟨nq, hw''⟩ := hw'
            subst hw''
            have HFX8 := hide (HFX7.out.later (W' := W7.drewN nq) ⟨rfl, rfl, rfl, Nat.le_refl _, fun _ _ => rfl⟩)
            clear HFX7 HE7 hr55 hr23 he55
            generalize W7.drewN nq = W8 at *
            have d0 : W8.cell? ⟨L, 0, none⟩ = some (.int .i64 al) := by
              rw [cell_of_row _ _ _ _ _ _ HFX8.out.lev, HFX8.out.lv.c0, EIA.out]
            have d1 : W8.cell? ⟨L, 1, none⟩ = some (.slice none 0 0) := by rw [cell_of_row _ _ _ _ _ _ HFX8.out.lev]; exact HFX8.out.lv.c1
            have d2 : W8.cell? ⟨L, 2, none⟩ = some (.slice none 0 0) := by rw [cell_of_row _ _ _ _ _ _ HFX8.out.lev]; exact HFX8.out.lv.c2
            have d3 : W8.cell? ⟨L, 3, none⟩ = some (.slice (some ⟨pb + 2, 0, none⟩) n n) := by
              rw [cell_of_row _ _ _ _ _ _ HFX8.out.lev, HFX8.out.lv.c3, EIN.out]
            have dh : W8.cell? ⟨L, 1092, none⟩ = some (.int .i64 0) := by rw [cell_of_row _ _ _ _ _ _ HFX8.out.lev]; exact HFX8.out.lv.ch
            obtain ⟨Z46, R46, l46, B46, N46⟩ : ∃ Z : Array Value, W8.rangeAt L 4 Z.toList ∧ Z.toList.length = 1024 ∧ (∀ w, (Instr.build 46 #[]).run Ybad.prog w = .ok (.agg Z) w) ∧ (∀ w, (binOp .neq 46 (.agg Z) (.agg Z)).run Ybad.prog w = .ok (.bool false) w) := ⟨zs .u32 1024, HFX8.out.lv.sym HFX8.out.lev, zs_len _ _, build46, neqOf eq46'⟩
            obtain ⟨Z47, R47, l47, B47, N47⟩ : ∃ Z : Array Value, W8.rangeAt L 1028 Z.toList ∧ Z.toList.length = 64 ∧ (∀ w, (Instr.build 47 #[]).run Ybad.prog w = .ok (.agg Z) w) ∧ (∀ w, (binOp .neq 47 (.agg Z) (.agg Z)).run Ybad.prog w = .ok (.bool false) w) := ⟨zs .u64 64, HFX8.out.lv.cod HFX8.out.lev, zs_len _ _, build47, neqOf eq47'⟩
            have HR46 := hide R46
            have HR47 := hide R47
            have HB46 := hide B46
            have HB47 := hide B47
            have HN46 := hide N46
            have HN47 := hide N47
            have hn45 := neqNil Ybad.underlying45
            have hn33 := neqNil Ybad.underlying33
            have hi46 : (Ybad.prog.info? 46).map (·.size) = some Z46.toList.length := by rw [l46]; exact s46
            have hi47 : (Ybad.prog.info? 47).map (·.size) = some Z47.toList.length := by rw [l47]; exact s47
            have HI46 := hide hi46
            have HI47 := hide hi47
            clear R46 R47 B46 B47 N46 N47 l46 l47 hi46 hi47
            have s45 : (Ybad.prog.info? 45).map (·.size) = some 1 := by kernel_rfl
            have F0 : ∀ w, (Instr.fieldAt 49 (.pointer (some ⟨L, 0, none⟩)) 0).run Ybad.prog w = .ok (.pointer (some ⟨L, 0, none⟩)) w := fun w => fieldAt_of Ybad.underlying49 0 _ rfl _ s3 L w
            have F1 : ∀ w, (Instr.fieldAt 49 (.pointer (some ⟨L, 0, none⟩)) 1).run Ybad.prog w = .ok (.pointer (some ⟨L, 1, none⟩)) w := fun w => fieldAt_of Ybad.underlying49 1 _ rfl _ s45 L w
            have F2 : ∀ w, (Instr.fieldAt 49 (.pointer (some ⟨L, 0, none⟩)) 2).run Ybad.prog w = .ok (.pointer (some ⟨L, 2, none⟩)) w := fun w => fieldAt_of Ybad.underlying49 2 _ rfl _ s33 L w
            have F6 : ∀ w, (Instr.fieldAt 49 (.pointer (some ⟨L, 0, none⟩)) 6).run Ybad.prog w = .ok (.pointer (some ⟨L, 1092, none⟩)) w := fun w => fieldAt_of Ybad.underlying49 6 _ rfl _ s3 L w
            have F5 : ∀ w, (Instr.fieldAt 49 (.pointer (some ⟨L, 0, none⟩)) 5).run Ybad.prog w = .ok (.pointer (some ⟨L, 1028, none⟩)) w := fun w => fieldAt_of Ybad.underlying49 5 _ rfl _ s47 L w
            have F4 : ∀ w, (Instr.fieldAt 49 (.pointer (some ⟨L, 0, none⟩)) 4).run Ybad.prog w = .ok (.pointer (some ⟨L, 4, none⟩)) w := fun w => fieldAt_of Ybad.underlying49 4 _ rfl _ s46 L w
            go_upto_region 73 with fail
            refine frame_gen ?_
            intro a hA
            have hsz : a.tmps.size = 397 := by rw [hA]; rfl
            have h24 : a.tmps[24]? = some (.pointer (some ⟨L, 0, none⟩)) := by rw [hA]; rfl
            have h00 : a.tmps[0]? = some (.int .i64 al) := by rw [hA]; rfl
            refine wp_region_lit ?_
            refine g_start ?_
            iterate 43 (refine g_hid rfl (by first | exact want0 rfl | exact want1 rfl rfl (putsL_at hsz rfl rfl)) (by first
              | exact x_move rfl (by first | exact ev_out h24 rfl rfl | exact ev_out h00 rfl rfl | exact ev_in hsz rfl rfl rfl)
              | exact x_nil rfl (ev_in hsz rfl rfl rfl)
              | exact x_pick rfl (ev_in hsz rfl rfl rfl) (ev_in hsz rfl rfl rfl)
              | exact x_fieldR (f := 0) rfl (ev_in hsz rfl rfl rfl) (F0 _)
              | exact x_fieldR (f := 1) rfl (ev_in hsz rfl rfl rfl) (F1 _)
              | exact x_fieldR (f := 2) rfl (ev_in hsz rfl rfl rfl) (F2 _)
              | exact x_fieldR (f := 6) rfl (ev_in hsz rfl rfl rfl) (F6 _)
              | exact x_fieldR (f := 5) rfl (ev_in hsz rfl rfl rfl) (F5 _)
              | exact x_fieldR (f := 4) rfl (ev_in hsz rfl rfl rfl) (F4 _)
              | exact x_load1 (t := 3) rfl (ev_in hsz rfl rfl rfl) Ybad.underlying3 rfl (by first | exact d0 | exact dh)
              | exact x_load1 (t := 45) rfl (ev_in hsz rfl rfl rfl) Ybad.underlying45 rfl d1
              | exact x_load1 (t := 33) rfl (ev_in hsz rfl rfl rfl) Ybad.underlying33 rfl d2
              | exact x_load (t := 47) rfl (ev_in hsz rfl rfl rfl) HR47.out Ybad.underlying47 rfl HI47.out
              | exact x_load (t := 46) rfl (ev_in hsz rfl rfl rfl) HR46.out Ybad.underlying46 rfl HI46.out
              | exact x_build0 (t := 47) rfl HB47.out
              | exact x_build0 (t := 46) rfl HB46.out
              | exact x_neq (t := 47) rfl (ev_in hsz rfl rfl rfl) (ev_in hsz rfl rfl rfl) (run_eqGuard_agg _ _ _ _ _ _ _ eqg47) (HN47.out _)
              | exact x_neq (t := 46) rfl (ev_in hsz rfl rfl rfl) (ev_in hsz rfl rfl rfl) (run_eqGuard_agg _ _ _ _ _ _ _ eqg46) (HN46.out _)
              | exact x_neq (t := 3) rfl (ev_in hsz rfl rfl rfl) (ev_in hsz rfl rfl rfl) (guI _ _ _ _ _ _) (neqI _ _ _ _)
              | exact x_neq (t := 3) rfl (ev_in hsz rfl rfl rfl) (ev_con rfl) (guI _ _ _ _ _ _) (neqI _ _ _ _)
              | exact x_neq (t := 45) rfl (ev_in hsz rfl rfl rfl) (ev_con rfl) (guS _ _ _ _) (hn45 _)
              | exact x_neq (t := 33) rfl (ev_in hsz rfl rfl rfl) (ev_con rfl) (guS _ _ _ _) (hn33 _)) ?_)
            refine g_end hA 279 rfl ?_
            simp only [valsU, setR]
            clear hA hsz h24 h00 a F0 F1 F2 F4 F5 F6 s45 hn45 hn33 HR46 HR47 HB46 HB47 HN46 HN47 HI46 HI47 d0 d1 d2 dh
            go_upto_block 18 with fail
            clear d3
            go_cut [332] (fun s W => Below W8.heap.size W8 W)
            case first =>
              as_aux_lemma =>
                go_wp2_with fail
                go_loopw [332] (fun s W => ∃ i : Nat, i ≤ n ∧ s = .int .i64 i ∧ Below W8.heap.size W8 W) (fun s _ => n - (intOf s).toNat)
                case atStart => exact ⟨0, by omega, rfl, Below.refl _ _⟩
                case round =>
                  obtain ⟨i, hi, rfl, hB⟩ := hrel
                  by_cases hlt : i < n
                  · obtain ⟨b, off, rfl, hbw, hcl⟩ := HA.out.cells (by omega)
                    obtain ⟨hc0, hc1⟩ := hcl i hlt
                    obtain ⟨fb0, fb1⟩ := HA.out.fb i hlt
                    have hfx := HFX8.out.later hB
                    have hbel := hfx.bel
                    have k0 : wr.cell? ⟨b, off + i * 2, none⟩ = some (.int .u8 (fst i)) := by rw [hbel.cell (p := ⟨b, off + i * 2, none⟩) hbw]; exact hc0
                    have k1 : wr.cell? ⟨b, off + i * 2 + 1, none⟩ = some (.slice (ab i) (m i) (cb i)) := by rw [hbel.cell (p := ⟨b, off + i * 2 + 1, none⟩) hbw]; exact hc1
                    have hiI : i < I.n := by have := EIN.out; omega
                    have hmi := HM.out i hlt
                    obtain ⟨f, hf⟩ : ∃ f : Nat, I.f i = f := ⟨_, rfl⟩
                    have hff : 2 + fst i % 62 = (f : Int) := by have := EIF.out i; omega
                    have d3 : wr.cell? ⟨L, 3, none⟩ = some (.slice (some ⟨pb + 2, 0, none⟩) n n) := by
                      rw [cell_of_row _ _ _ _ _ _ hfx.lev, hfx.lv.c3, EIN.out]
                    have g0 : wr.cell? ⟨pb + 2, i * 2, none⟩ = some (.int .i64 f) := by rw [hfx.gr.one i hiI, hf]
                    have g1 : wr.cell? ⟨pb + 2, i * 2 + 1, none⟩ = some (.slice (some ⟨gb i, 0, none⟩) (m i) (m i)) := by rw [hfx.gr.two i hiI, EIM.out]
                    have HBL := hide hB
                    have HBW := hide hbel
                    have HFI := hide hf
                    clear hB hfx hbel hc0 hc1 hcl hf
                    obtain ⟨mi, hmi'⟩ : ∃ mi, m i = mi := ⟨_, rfl⟩
                    obtain ⟨am, ham⟩ : ∃ am, ab i = am := ⟨_, rfl⟩
                    obtain ⟨cm, hcm⟩ : ∃ cm, cb i = cm := ⟨_, rfl⟩
                    obtain ⟨gi, hgi⟩ : ∃ gi, gb i = gi := ⟨_, rfl⟩
                    rw [hmi', ham, hcm] at k1
                    rw [hmi', hgi] at g1
                    rw [hmi'] at hmi
                    have HMI := hide hmi'
                    have HAM := hide ham
                    have HCM := hide hcm
                    have HGI := hide hgi
                    clear hmi' ham hcm hgi
                    have hbands := HA.out.bands i hlt
                    have hlb := fun j hj => HA.out.lb i j hlt hj
                    rw [HMI.out] at hbands hlb
                    rw [HAM.out] at hbands
                    have HBN := hide hbands
                    have HLB := hide hlb
                    clear hbands hlb
                    go_upto_region 82 with fail
                    obtain ⟨NB, hNB⟩ : ∃ NB, wr.heap.size = NB := ⟨_, rfl⟩
                    have hb1 : Below w.heap.size w (wr.alloc (Obj.cells #[Value.int .i64 f, .slice (some ⟨gi, 0, none⟩) mi mi] 43)) := HBW.out.alloc HBW.out.size _
                    have hb2 : Below W8.heap.size W8 (wr.alloc (Obj.cells #[Value.int .i64 f, .slice (some ⟨gi, 0, none⟩) mi mi] 43)) := HBL.out.alloc HBL.out.size _
                    have hnew := heap_alloc_new wr (Obj.cells #[Value.int .i64 f, .slice (some ⟨gi, 0, none⟩) mi mi] 43)
                    have k1' : (wr.alloc (Obj.cells #[Value.int .i64 f, .slice (some ⟨gi, 0, none⟩) mi mi] 43)).cell? ⟨b, off + i * 2 + 1, none⟩ = some (.slice am mi cm) := by
                      rw [World.cell?_of_block (w := wr) (Below.heap_alloc _ _ _ (World.block_lt_of_cell? _ _ k1))]; exact k1
                    rw [hNB] at hnew ⊢
                    generalize wr.alloc (Obj.cells #[Value.int .i64 f, .slice (some ⟨gi, 0, none⟩) mi mi] 43) = W9 at *
                    have t0 : W9.cell? ⟨NB, 0, none⟩ = some (.int .i64 f) := by rw [cell_of_row _ _ _ _ _ _ hnew]; rfl
                    have t1 : W9.cell? ⟨NB, 1, none⟩ = some (.slice (some ⟨gi, 0, none⟩) mi mi) := by rw [cell_of_row _ _ _ _ _ _ hnew]; rfl
                    have HB1 := hide hb1
                    have HB2 := hide hb2
                    clear hb1 hb2 hnew hNB k0 k1 g0 g1 d3 HBL HBW
                    refine frame_gen ?_
                    intro a hA
                    have hsz : a.tmps.size = 397 := by rw [hA]; rfl
                    have h40 : a.tmps[40]? = some (.pointer (some ⟨NB, 0, none⟩)) := by rw [hA]; rfl
                    have h39 : a.tmps[39]? = some (.int .i64 f) := by rw [hA]; rfl
                    have h38 : a.tmps[38]? = some (.int .i64 i) := by rw [hA]; rfl
                    have h04 : a.tmps[4]? = some (.slice (some ⟨b, off, none⟩) n c4) := by rw [hA]; rfl
                    refine wp_region_quiet_lit (by kernel_rfl) (by kernel_rfl) ?_
                    refine q_start ?_
                    iterate 16 (refine q_hid rfl (by first | exact want0 rfl | exact want1 rfl rfl (putsL_at hsz rfl rfl)) (by
                      rintro w' ⟨nd, rfl⟩
                      first
                      | exact x_move rfl (by first | exact ev_out h39 rfl rfl | exact ev_out h04 rfl rfl | exact ev_out h38 rfl rfl | exact ev_in hsz rfl rfl rfl)
                      | exact x_pick rfl (ev_in hsz rfl rfl rfl) (ev_in hsz rfl rfl rfl)
                      | exact x_fieldR (s := 43) (f := 0) rfl (ev_out h40 rfl rfl) (F43_0 _ _)
                      | exact x_fieldR (s := 43) (f := 1) rfl (ev_out h40 rfl rfl) (F43_1 _ _)
                      | exact x_fieldR (s := 28) (f := 1) rfl (ev_in hsz rfl rfl rfl) (F28_1 _ _ _)
                      | exact x_load1 (t := 3) (p := ⟨NB, 0, none⟩) rfl (ev_in hsz rfl rfl rfl) Ybad.underlying3 rfl t0
                      | exact x_load1 (t := 33) (p := ⟨NB, 1, none⟩) rfl (ev_in hsz rfl rfl rfl) Ybad.underlying33 rfl t1
                      | exact x_load1 (t := 26) (p := ⟨b, off + i * 2 + 1, none⟩) rfl (ev_in hsz rfl rfl rfl) Ybad.underlying26 rfl k1'
                      | exact x_len (t := 33) rfl Ybad.underlying33 (ev_in hsz rfl rfl rfl)
                      | exact x_len (t := 26) rfl Ybad.underlying26 (ev_in hsz rfl rfl rfl)
                      | exact x_index (t := 25) (k := 1) rfl (ev_in hsz rfl rfl rfl) (ev_in hsz rfl rfl rfl) Ybad.underlying25 s28 hlt
                      | exact x_neq (t := 3) rfl (ev_in hsz rfl rfl rfl) (ev_in hsz rfl rfl rfl) (guI _ _ _ _ _ _) (neqI _ _ _ _)) ?_)
                    refine q_end hA 350 rfl ?_
                    rintro w' ⟨nq', rfl⟩
                    simp only [valsU, setR]
                    have HB3 := hide (below_drewN HB1.out nq')
                    have HB4 := hide (below_drewN HB2.out nq')
                    have k1 : (W9.drewN nq').cell? ⟨b, off + i * 2 + 1, none⟩ = some (.slice am mi cm) := k1'
                    have t1' : (W9.drewN nq').cell? ⟨NB, 1, none⟩ = some (.slice (some ⟨gi, 0, none⟩) mi mi) := t1
                    clear hA hsz h40 h39 h38 h04 a k1' t0 t1 HB1 HB2
                    generalize W9.drewN nq' = WA at *
                    go_wp2_with fail
                    clear k1
                    go_loopw [372] (fun s W => ∃ j : Nat, j ≤ mi ∧ s = .int .i64 j ∧ Below WA.heap.size WA W) (fun s _ => mi - (intOf s).toNat)
                    case atStart => exact ⟨0, by omega, rfl, Below.refl _ _⟩
                    case round =>
                      obtain ⟨j, hj, rfl, hBj⟩ := hrel
                      by_cases hltj : j < mi
                      · obtain ⟨b2, off2, rfl, hb2w, hcl2⟩ := HBN.out (by omega)
                        obtain ⟨hc0, hc1⟩ := hcl2 j hltj
                        obtain ⟨l0, l1, o0, o1⟩ := HLB.out j hltj
                        have hb1 : Below w.heap.size w wr := HB3.out.trans (hBj.mono HB3.out.size)
                        have hb2 : Below W8.heap.size W8 wr := HB4.out.trans (hBj.mono HB4.out.size)
                        have k0 : wr.cell? ⟨b2, off2 + j * 2, none⟩ = some (.int .i8 (lst i j)) := by rw [hb1.cell (p := ⟨b2, off2 + j * 2, none⟩) hb2w]; exact hc0
                        have k1 : wr.cell? ⟨b2, off2 + j * 2 + 1, none⟩ = some (.int .u8 (own i j)) := by rw [hb1.cell (p := ⟨b2, off2 + j * 2 + 1, none⟩) hb2w]; exact hc1
                        have k2 : wr.cell? ⟨NB, 1, none⟩ = some (.slice (some ⟨gi, 0, none⟩) mi mi) := by rw [hBj.cell (World.block_lt_of_cell? _ _ t1')]; exact t1'
                        have HB1 := hide hb1
                        have HB2 := hide hb2
                        have HBJ := hide hBj
                        have HK2 := hide k2
                        clear hb1 hb2 hBj hc0 hc1 hcl2 k2
                        go_upto_region 87 with fail
                        obtain ⟨p, hp⟩ : ∃ p : Nat, (own i j % 3).toNat = p := ⟨_, rfl⟩
                        have hpp : own i j % 3 = (p : Int) := by omega
                        have hp3 : p < 3 := by omega
                        have HPJ : Hid (I.p i j = p) := by show _ = _; rw [EIP.out, hp]
                        have HLJ : Hid (I.lst i j = lst i j) := by show _ = _; rw [EIL.out]
                        have hiM : j < I.m i := by rw [EIM.out, HMI.out]; exact hltj
                        generalize lst i j = ls at *
                        generalize own i j = ow at *
                        clear hp k0 k1
                        have hnew := heap_alloc_new wr (Obj.cells #[Value.int IntKind.i8 ls, Value.int IntKind.u8 ow] 36)
                        have hc1 : Below w.heap.size w (wr.alloc (Obj.cells #[Value.int IntKind.i8 ls, Value.int IntKind.u8 ow] 36)) := HB1.out.alloc HB1.out.size _
                        have hc2 : Below W8.heap.size W8 (wr.alloc (Obj.cells #[Value.int IntKind.i8 ls, Value.int IntKind.u8 ow] 36)) := HB2.out.alloc HB2.out.size _
                        have hc3 : Below WA.heap.size WA (wr.alloc (Obj.cells #[Value.int IntKind.i8 ls, Value.int IntKind.u8 ow] 36)) := HBJ.out.alloc HBJ.out.size _
                        have t1 : (wr.alloc (Obj.cells #[Value.int IntKind.i8 ls, Value.int IntKind.u8 ow] 36)).cell? ⟨NB, 1, none⟩ = some (.slice (some ⟨gi, 0, none⟩) mi mi) := by
                          rw [World.cell?_of_block (w := wr) (Below.heap_alloc _ _ _ (World.block_lt_of_cell? _ _ HK2.out))]; exact HK2.out
                        obtain ⟨T1, hT1⟩ : ∃ T1, wr.heap.size = T1 := ⟨_, rfl⟩
                        rw [hT1] at hnew ⊢
                        generalize wr.alloc (Obj.cells #[Value.int IntKind.i8 ls, Value.int IntKind.u8 ow] 36) = WB at *
                        have z0 : WB.cell? ⟨T1, 0, none⟩ = some (.int .i8 ls) := by rw [cell_of_row _ _ _ _ _ _ hnew]; rfl
                        have z1 : WB.cell? ⟨T1, 1, none⟩ = some (.int .u8 ow) := by rw [cell_of_row _ _ _ _ _ _ hnew]; rfl
                        have hst := (HFX8.out.later hc2).gr.st i hiI
                        have hrow := hst.row j hiM
                        have hband := hst.band j hiM
                        rw [HGI.out] at hrow
                        rw [HFI.out, HLJ.out, HPJ.out] at hband
                        obtain ⟨gj, hgj⟩ : ∃ gj, gc i j = gj := ⟨_, rfl⟩
                        rw [hgj] at hrow hband
                        have hrow' : WB.cell? ⟨gi, 0 + j * (0 + 1), none⟩ = some (.pointer (some ⟨gj, 0, none⟩)) := by simpa using hrow
                        have hr41 : WB.rangeAt gj 0 (bandC pb f ls p).toList := fun q u hu => by
                          rw [Nat.zero_add, cell_of_row _ _ _ _ _ _ hband]; simpa using hu
                        have HC1 := hide hc1
                        have HC2 := hide hc2
                        have HC3 := hide hc3
                        have lsb : -128 ≤ ls ∧ ls ≤ 127 := ⟨l0, l1⟩
                        have owb : 0 ≤ ow ∧ ow ≤ 255 := ⟨o0, o1⟩
                        refine frame_gen ?_
                        intro a hA
                        have hsz : a.tmps.size = 397 := by rw [hA]; rfl
                        have h40 : a.tmps[40]? = some (.pointer (some ⟨NB, 0, none⟩)) := by rw [hA]; rfl
                        have h42 : a.tmps[42]? = some (.pointer (some ⟨T1, 0, none⟩)) := by rw [hA]; rfl
                        have h39 : a.tmps[39]? = some (.int .i64 f) := by rw [hA]; rfl
                        have h41 : a.tmps[41]? = some (.int .i64 j) := by rw [hA]; rfl
                        have h13 : a.tmps[13]? = some (.pointer (some ⟨pb, 0, none⟩)) := by rw [hA]; rfl
                        refine wp_region_quiet_lit (by kernel_rfl) (by kernel_rfl) ?_
                        refine q_start ?_
                        iterate 18 (refine q_hid rfl (want0 rfl) (by
                          rintro w' ⟨nd, rfl⟩
                          first
                          | exact x_move rfl (by first | exact ev_out h39 rfl rfl | exact ev_out h41 rfl rfl)
                          | exact x_nil rfl (ev_in hsz rfl rfl rfl)
                          | exact x_fieldR (s := 43) (f := 1) rfl (ev_out h40 rfl rfl) (F43_1 _ _)
                          | exact x_fieldR (s := 36) (f := 0) rfl (ev_out h42 rfl rfl) (F36_0 _ _)
                          | exact x_fieldR (s := 36) (f := 1) rfl (ev_out h42 rfl rfl) (F36_1 _ _)
                          | exact x_load1 (t := 33) (p := ⟨NB, 1, none⟩) rfl (ev_in hsz rfl rfl rfl) Ybad.underlying33 rfl t1
                          | exact x_load1 (t := 37) (p := ⟨gi, 0 + j * (0 + 1), none⟩) rfl (ev_in hsz rfl rfl rfl) Ybad.underlying37 rfl hrow'
                          | exact x_load1 (t := 34) (p := ⟨T1, 0, none⟩) rfl (ev_in hsz rfl rfl rfl) Ybad.underlying34 rfl z0
                          | exact x_load1 (t := 5) (p := ⟨T1, 1, none⟩) rfl (ev_in hsz rfl rfl rfl) Ybad.underlying5 rfl z1
                          | exact x_load (t := 41) (b := gj) (i := 0) (cs := bandC pb f ls p) rfl (ev_in hsz rfl rfl rfl) (rangeAt_drewN hr41 nd) Ybad.underlying41 rfl s41
                          | exact x_index (t := 33) (k := 0) rfl (ev_in hsz rfl rfl rfl) (ev_in hsz rfl rfl rfl) Ybad.underlying33 s37 hltj
                          | exact x_run1 (s := 34) rfl (ev_in hsz rfl rfl rfl) (cv34 _ lsb _)
                          | exact x_run1 (s := 5) rfl (ev_in hsz rfl rfl rfl) (cv5 _ owb _)
                          | exact x_bin (p := .rem) rfl (ev_in hsz rfl rfl rfl) (ev_con rfl) (gu3 _ _ _ _ _) (rm3 _ owb p hpp _)
                          | exact x_indexR (t := 31) rfl (ev_out h13 rfl rfl) (ev_in hsz rfl rfl rfl) (ix31 pb p hp3 _)
                          | exact x_build3 (t := 41) rfl (ev_in hsz rfl rfl rfl) (ev_in hsz rfl rfl rfl) (ev_in hsz rfl rfl rfl) (build41 pb f ls p _)
                          | exact x_neq (t := 41) rfl (ev_in hsz rfl rfl rfl) (ev_in hsz rfl rfl rfl) (run_eqGuard_agg _ _ _ _ _ _ _ eqg41) (neqOf (eq41' pb f ls p) _)) ?_)
                        refine q_end hA 377 rfl ?_
                        rintro w' ⟨nq', rfl⟩
                        simp only [valsU, setR]
                        have HD3 := hide (below_drewN HC3.out nq')
                        clear hA hsz h40 h39 h41 h42 h13 a hrow hrow' hband hr41 hst hnew z0 z1 t1 hc1 hc2 hc3 HC1 HC2 HC3
                        generalize WB.drewN nq' = WC at *
                        go_wp2_with fail
                        go_roundw
                        case rel => exact ⟨j + 1, by omega, by go_num, HD3.out⟩
                        case measure => simp [intOf]; omega
                      · have : j = mi := by omega
                        subst this
                        have HB5 := hide (HB4.out.trans (hBj.mono HB4.out.size))
                        clear hBj
                        go_wp2_with fail
                        go_roundw
                        case rel => exact ⟨i + 1, by omega, by go_num, HB5.out⟩
                        case measure => simp [intOf]; omega
                  · have : i = n := by omega
                    subst this
                    have HBL := hide hB
                    clear hB
                    go_wp2_with fail
                    go_meet
                    case rel => exact HBL.out
            case rest =>
              have HBL := hide hcut
              clear hcut
              have HBW := hide (HFX8.out.later HBL.out).bel
              go_wp2_with fail
              exact bodyPost_ret_by (v := .bool true) (by kernel_rfl) rfl ⟨rfl, HBW.out⟩
end Go.Proofs.YbulkedlgDoor
