import Derived.Test.YbulkedomOff
import Derived.Test.YbulkedomSo
import Derived.Laws.AppendOwn
namespace Go.Proofs.Ybulkedom
open Go.RowKit Go.Maps
set_option linter.unusedVariables false

theorem info47 : (Yba.prog.info? 47).map (fun i => (i.zero, i.size, i.bytes)) = some (some (.agg #[.string ⟨#[]⟩, .string ⟨#[]⟩, .string ⟨#[]⟩, .string ⟨#[]⟩, .string ⟨#[]⟩, .int .i64 0, .int .i64 0]), 7, 96) := by kernel_rfl
/-- The names that are kept, of the first n. -/
def KL (keep : ByteArray → Bool) (L : Nat → ByteArray) : Nat → List ByteArray
  | 0 => []
  | n + 1 => if keep (L n) then KL keep L n ++ [L n] else KL keep L n
theorem KL_len (keep : ByteArray → Bool) (L : Nat → ByteArray) (n : Nat) : (KL keep L n).length ≤ n := by
  induction n with
  | zero => exact Nat.le_refl _
  | succ n ih =>
    unfold KL
    split
    · simp; omega
    · omega
theorem KL_skip {keep : ByteArray → Bool} {L : Nat → ByteArray} {n : Nat} (h : keep (L n) = false) : KL keep L (n + 1) = KL keep L n := by show (if keep (L n) = true then _ else _) = _; rw [h]; rfl
theorem KL_keep {keep : ByteArray → Bool} {L : Nat → ByteArray} {n : Nat} (h : keep (L n) = true) : KL keep L (n + 1) = KL keep L n ++ [L n] := by show (if keep (L n) = true then _ else _) = _; rw [h]; rfl
def nmF (l : List ByteArray) (j : Nat) : ByteArray := l.getD j ByteArray.empty
def plF (fst : ByteArray → Option Int) (l : List ByteArray) (j : Nat) : Int := (fst (nmF l j)).getD 0
/-- The cells of the kept ones, one by one. -/
def kF (f : ByteArray) (fst : ByteArray → Option Int) (l : List ByteArray) (j : Nat) : List Value := pmC f (nmF l j) (plF fst l j)
theorem flat_congr {F G : Nat → List Value} {n : Nat} (h : ∀ k, k < n → F k = G k) : flat F n = flat G n := by
  induction n with
  | zero => rfl
  | succ n ih => rw [flat, flat, ih (fun k hk => h k (by omega)), h n (by omega)]
theorem nmF_old {l : List ByteArray} {x : ByteArray} {j : Nat} (h : j < l.length) : nmF (l ++ [x]) j = nmF l j := by
  unfold nmF
  rw [List.getD_eq_getElem?_getD, List.getD_eq_getElem?_getD, List.getElem?_append_left h]
theorem nmF_new {l : List ByteArray} {x : ByteArray} : nmF (l ++ [x]) l.length = x := by
  unfold nmF
  rw [List.getD_eq_getElem?_getD, List.getElem?_append_right (Nat.le_refl _)]
  simp
theorem flat_snoc (f : ByteArray) (fst : ByteArray → Option Int) (l : List ByteArray) (x : ByteArray) : flat (kF f fst (l ++ [x])) (l.length + 1) = flat (kF f fst l) l.length ++ pmC f x ((fst x).getD 0) := by
  rw [flat, flat_congr (G := kF f fst l) (fun k hk => by unfold kF plF; rw [nmF_old hk])]
  congr 1
  unfold kF plF
  rw [nmF_new]

/-- What builtInOrder has gathered. -/
def Or (B : Nat) (W : World) (f : ByteArray) (fst : ByteArray → Option Int) (v : Value) (l : List ByteArray) : Prop := W.ownsRow B 47 7 v l.length (flat (kF f fst l) l.length) ∧ (l = [] → v = .slice none 0 0)

theorem heap_at (w : World) (o : Obj) {k : Nat} (h : k = w.heap.size) : (w.alloc o).heap[k]? = some o := by subst h; exact heap_alloc_new w o
theorem pmC_one (f n : ByteArray) (x : Int) : ∀ u ∈ pmC f n x, u.oneCell' = true := by
  intro u hu
  simp only [pmC, List.mem_cons, List.not_mem_nil, or_false] at hu
  rcases hu with rfl | rfl | rfl | rfl | rfl | rfl | rfl <;> rfl
theorem wp_of_append {P : Program} {o : Oper} {a : Act} {K : Act → World → Prop} {Q : Exit → Act → World → Prop} {w w' : World} {sv xv v' : Value} (s x : Operand) (t ty : TypeId) (ho : o.op = .call { callee := .builtin .append, args := #[s, x], argTypes := #[t, t] }) (hty : o.type = ty) (hs : a.eval s = sv) (hx : a.eval x = xv)
    (hr : (Builtin.append_ #[t, t] ty #[sv, xv]).run P w = .ok v' w') (h : K (a.put o.dst v') w') : o.wp P a w K Q := by
  subst hty
  unfold Oper.wp execOp
  simp only [ho, resolve, invoke, builtin, Sem.run_bind, Sem.run_pure, Result.andThen_ok, List.map_toArray, List.map_cons, List.map_nil, hs, hx, hr]
  exact h
theorem Kp.toBelow {g B : Nat} {W W' : World} (h : Kp g W W') (hg : B ≤ g) (hB : B ≤ W.heap.size) : Below B W W' := by
  refine ⟨?_, ?_, ?_, ?_, ?_⟩ <;> first | exact h.os | exact h.tape | exact h.output | exact h.size | skip
  intro b hb
  exact h.block b (by omega) (by omega)
theorem Pm.mono {B B' : Nat} {W : World} {g n : Nat} {f : ByteArray} {nam : Nat → ByteArray} {kp : Nat → Int} {p : Nat → Nat} (h : Pm B W g n f nam kp p) (hB : B' ≤ B) : Pm B' W g n f nam kp p := ⟨⟨Nat.le_trans hB h.row.base, h.row.row, h.row.len, h.row.at_⟩⟩
theorem own_below {W W' : World} {B t sz n : Nat} {v : Value} {xs : List Value} (h : W.ownsRow B t sz v n xs) (hb : Below W.heap.size W W') : W'.ownsRow B t sz v n xs := by
  refine ⟨h.1, ?_⟩
  rcases h.2 with h' | ⟨g, cap, cur, h', hb', hg, hr⟩
  · exact .inl h'
  · exact .inr ⟨g, cap, cur, h', hb', by rw [hb.block g (Array.getElem?_eq_some_iff.1 hg).1]; exact hg, hr⟩

set_option maxRecDepth 100000 in
set_option maxHeartbeats 8000000 in
theorem bio_any (f : ByteArray) (db : Nat) (oa : Option Addr) (k oc fb md mf : Nat) (dis : ByteArray → Bool) (fst : ByteArray → Option Int) (mb n mc : Nat) (L : Nat → ByteArray) (w : World) (hD : MD w db md dis) (hF : MF w fb mf fst) (hO : OnlyAt w oa k) (hk : k ≤ 4) (hn : n ≤ 4096) (hL : ∀ j, (L j).size ≤ 64)
    (hM : ∀ j, j < n → w.cell? ⟨mb, j * 2, none⟩ = some (.string f) ∧ w.cell? ⟨mb, j * 2 + 1, none⟩ = some (.string (L j))) :
    Calls Yba.prog 6 #[.agg (swC f db oa k oc fb), .slice (some ⟨mb, 0, none⟩) n mc] w fun e w' => ∃ a c, e = .returned (.slice a (KL (fun s => !offB dis fst k s) L n).length c) ∧ Below w.heap.size w w' ∧
      (((KL (fun s => !offB dis fst k s) L n) = [] ∧ a = none) ∨ (0 < (KL (fun s => !offB dis fst k s) L n).length ∧ ∃ g q, a = some ⟨g, 0, none⟩ ∧ Srt (plF fst (KL (fun s => !offB dis fst k s) L n)) q 0 (KL (fun s => !offB dis fst k s) L n).length ∧ Re (fun i => i) q 0 (KL (fun s => !offB dis fst k s) L n).length ∧ Pm w.heap.size w' g (KL (fun s => !offB dis fst k s) L n).length f (nmF (KL (fun s => !offB dis fst k s) L n)) (plF fst (KL (fun s => !offB dis fst k s) L n)) q)) := by
  obtain ⟨kb, hkb⟩ : ∃ kb : ByteArray → Bool, (fun s => !offB dis fst k s) = kb := ⟨_, rfl⟩
  rw [hkb]
  have hkb' : ∀ s, offB dis fst k s = !kb s := fun s => by rw [← hkb]; simp
  have HKB := hide hkb'
  obtain ⟨i0, hi, hz0, hz1, hz2⟩ := info_parts info47
  have HINFO := hide (And.intro hi (And.intro hz0 (And.intro hz1 hz2)))
  have HD := hide hD
  have HF := hide hF
  have HO := hide hO
  have HM := hide hM
  have HL := hide hL
  clear hD hF hO hM hL hkb hkb' hi hz0 hz1 hz2
  obtain ⟨W0, hW0⟩ : ∃ W0, w.alloc (.cells (swC f db oa k oc fb) 28) = W0 := ⟨_, rfl⟩
  have hbx : W0.heap[w.heap.size]? = some (.cells (swC f db oa k oc fb) 28 (0, 0)) := by rw [← hW0]; exact heap_alloc_new w _
  have hb0 : Below w.heap.size w W0 := by rw [← hW0]; exact (Below.refl _ _).alloc (Nat.le_refl _) _
  have hsz : W0.heap.size = w.heap.size + 1 := by rw [← hW0]; simp
  unfold swC at hW0 ⊢
  go_enter Yba.func6, Yba.ntmps6
  go_wp2_with fail
  have HBX := hide hbx
  have HB0 := hide hb0
  have HSZ := hide hsz
  clear hbx hb0 hW0 hsz
  go_loopw [5, 12] (fun v s W => ∃ (ov : Value) (i : Nat), v = ov ∧ i ≤ n ∧ s = .int .i64 i ∧ Hid (Or W0.heap.size W f fst ov (KL kb L i) ∧ Below W0.heap.size W0 W)) (fun _ s _ => n - (intOf s).toNat)
  case atStart => exact ⟨_, 0, rfl, by omega, rfl, hide ⟨⟨⟨rfl, .inl ⟨rfl, rfl⟩⟩, fun _ => rfl⟩, Below.refl _ _⟩⟩
  case round =>
    obtain ⟨ov, i, hov, hin, rfl, HX⟩ := hrel
    obtain rfl := hov.symm
    have hbw := HX.out.2
    have hbel : Below w.heap.size w wr := HB0.out.trans (hbw.mono (by rw [HSZ.out]; omega))
    by_cases hlt : i < n
    · obtain ⟨m0, m1⟩ := HM.out i hlt
      have mlt := World.block_lt_of_cell? _ _ m0
      have c0 : wr.cell? ⟨mb, i * 2, none⟩ = some (.string f) := by rw [hbel.cell (p := ⟨mb, i * 2, none⟩) mlt]; exact m0
      have c1 : wr.cell? ⟨mb, i * 2 + 1, none⟩ = some (.string (L i)) := by rw [hbel.cell (p := ⟨mb, i * 2 + 1, none⟩) mlt]; exact m1
      have hrow : wr.heap[w.heap.size]? = some (.cells (swC f db oa k oc fb) 28 (0, 0)) := by rw [hbw.block _ (by rw [HSZ.out]; omega)]; exact HBX.out
      have d0 : wr.cell? ⟨w.heap.size, 0, none⟩ = some (.string f) := cell_of_row _ _ _ _ _ _ hrow
      have d1 : wr.cell? ⟨w.heap.size, 1, none⟩ = some (.map (some db)) := cell_of_row _ _ _ _ _ _ hrow
      have d2 : wr.cell? ⟨w.heap.size, 2, none⟩ = some (.slice oa k oc) := cell_of_row _ _ _ _ _ _ hrow
      have d3 : wr.cell? ⟨w.heap.size, 3, none⟩ = some (.map (some fb)) := cell_of_row _ _ _ _ _ _ hrow
      have dlt := World.block_lt_of_cell? _ _ d0
      simp only at dlt
      obtain ⟨nm, hnm⟩ : ∃ nm, L i = nm := ⟨_, rfl⟩
      rw [hnm] at c1
      have hns : nm.size ≤ 64 := by rw [← hnm]; exact HL.out i
      have HNM := hide hnm
      obtain ⟨W1, hW1⟩ : ∃ W1, wr.alloc (.cells #[.string f, .string nm] 36) = W1 := ⟨_, rfl⟩
      have hb1 : Below wr.heap.size wr W1 := by rw [← hW1]; exact (Below.refl _ _).alloc (Nat.le_refl _) _
      have hbl1 : Below w.heap.size w W1 := hbel.trans (hb1.mono (by omega))
      have HOFF := hide (off_any f db oa k oc fb mf md dis fst nm W1 (by unfold maxLen; omega) hk (HD.out.below hbl1) (HF.out.below hbl1) (HO.out.below hbl1))
      have hrow1 : W1.heap[wr.heap.size]? = some (.cells #[.string f, .string nm] 36 (0, 0)) := by rw [← hW1]; exact heap_alloc_new wr _
      have hs1 : W1.heap.size = wr.heap.size + 1 := by rw [← hW1]; simp
      have e0 : W1.cell? ⟨w.heap.size, 0, none⟩ = some (.string f) := by rw [hb1.cell (p := ⟨w.heap.size, 0, none⟩) dlt]; exact d0
      have e1 : W1.cell? ⟨w.heap.size, 1, none⟩ = some (.map (some db)) := by rw [hb1.cell (p := ⟨w.heap.size, 1, none⟩) dlt]; exact d1
      have e2 : W1.cell? ⟨w.heap.size, 2, none⟩ = some (.slice oa k oc) := by rw [hb1.cell (p := ⟨w.heap.size, 2, none⟩) dlt]; exact d2
      have e3 : W1.cell? ⟨w.heap.size, 3, none⟩ = some (.map (some fb)) := by rw [hb1.cell (p := ⟨w.heap.size, 3, none⟩) dlt]; exact d3
      have f0 : W1.cell? ⟨wr.heap.size, 0, none⟩ = some (.string f) := cell_of_row _ _ _ _ _ _ hrow1
      have f1 : W1.cell? ⟨wr.heap.size, 1, none⟩ = some (.string nm) := cell_of_row _ _ _ _ _ _ hrow1
      have HB1 := hide hb1
      have HBW := hide hbw
      have HBEL := hide hbel
      have HROW1 := hide hrow1
      have HDLT := hide dlt
      have HS1 := hide hs1
      unfold swC at HOFF
      clear m0 m1 mlt hrow d0 d1 d2 d3 hbl1 hrow1 hb1 hbw hbel hnm hs1 dlt
      go_wp2_with fail
      refine HOFF.out.mono ?_
      rintro e W2 ⟨⟨u0, u1, u2, u3, u4, u5, rfl⟩, hb2⟩
      obtain ⟨bk, hbk⟩ : ∃ bk, kb nm = bk := ⟨_, rfl⟩
      have hob : offB dis fst k nm = !bk := by rw [← hbk]; exact HKB.out nm
      rw [hob]
      have HBK := hide hbk
      have HB2 := hide hb2
      have hlt2 : W1.heap.size ≤ W2.heap.size := hb2.size
      clear hob hbk hb2 HOFF e0 e1 e2 e3 f0 f1 c0 c1 hW1
      obtain ⟨W3, hW3⟩ : ∃ W3, W2.alloc (.cells #[.string u0, .string u1, .string u2, .string u3, .string u4, .int .i64 u5] 51) = W3 := ⟨_, rfl⟩
      have hb3 : Below W1.heap.size W1 W3 := by rw [← hW3]; exact HB2.out.alloc hlt2 _
      have HB3 := hide hb3
      clear hb3 hlt2
      have hsz3 : W1.heap.size ≤ W3.heap.size := HB3.out.size
      have hbs : Below wr.heap.size wr W3 := HB1.out.trans (HB3.out.mono (by rw [HS1.out]; omega))
      have hbs0 : Below W0.heap.size W0 W3 := HBW.out.trans (hbs.mono HBW.out.size)
      have HBS0 := hide hbs0
      cases bk with
      | false =>
        have HN : Hid (Or W0.heap.size W3 f fst ov (KL kb L (i + 1)) ∧ Below W0.heap.size W0 W3) := by
          refine ⟨?_, hbs0⟩
          rw [KL_skip (by rw [HNM.out]; exact HBK.out)]
          exact ⟨own_below HX.out.1.1 hbs, HX.out.1.2⟩
        clear hsz3 hbs hbs0
        go_wp2_with fail
        go_roundw
        case rel => exact ⟨_, i + 1, rfl, by omega, by go_num, HN⟩
        case measure => simp [intOf]; omega
      | true =>
        have HOR : Hid (Or W0.heap.size W3 f fst ov (KL kb L i)) := ⟨own_below HX.out.1.1 hbs, HX.out.1.2⟩
        have hbel3 : Below w.heap.size w W3 := HBEL.out.trans (hbs.mono HBEL.out.size)
        have HPL := hide (fun W' (h : Below W3.heap.size W3 W') => place_any f db oa k oc fb mf fst nm W' (by unfold maxLen; omega) ((HF.out.below hbel3).below h))
        have hrow3 : W3.heap[w.heap.size]? = some (.cells (swC f db oa k oc fb) 28 (0, 0)) := by rw [hbs0.block _ (by rw [HSZ.out]; omega)]; exact HBX.out
        have hrow4 : W3.heap[wr.heap.size]? = some (.cells #[.string f, .string nm] 36 (0, 0)) := by rw [HB3.out.block _ (by rw [HS1.out]; omega)]; exact HROW1.out
        have e0 : W3.cell? ⟨w.heap.size, 0, none⟩ = some (.string f) := cell_of_row _ _ _ _ _ _ hrow3
        have e1 : W3.cell? ⟨w.heap.size, 1, none⟩ = some (.map (some db)) := cell_of_row _ _ _ _ _ _ hrow3
        have e2 : W3.cell? ⟨w.heap.size, 2, none⟩ = some (.slice oa k oc) := cell_of_row _ _ _ _ _ _ hrow3
        have e3 : W3.cell? ⟨w.heap.size, 3, none⟩ = some (.map (some fb)) := cell_of_row _ _ _ _ _ _ hrow3
        have f0 : W3.cell? ⟨wr.heap.size, 0, none⟩ = some (.string f) := cell_of_row _ _ _ _ _ _ hrow4
        have f1 : W3.cell? ⟨wr.heap.size, 1, none⟩ = some (.string nm) := cell_of_row _ _ _ _ _ _ hrow4
        unfold swC at HPL
        obtain ⟨wb, hwb⟩ : ∃ wb, w.heap.size = wb := ⟨_, rfl⟩
        obtain ⟨rb, hrb⟩ : ∃ rb, wr.heap.size = rb := ⟨_, rfl⟩
        rw [hwb] at e0 e1 e2 e3
        rw [hrb] at f0 f1
        obtain ⟨hi, hz0, hz1, hz2⟩ := HINFO.out
        clear hsz3 hbs hbs0 hbel3
        obtain ⟨pv, hpv⟩ : ∃ pv, (fst nm).getD 0 = pv := ⟨_, rfl⟩
        rw [hpv] at HPL
        have HPV := hide hpv
        obtain ⟨l, hl⟩ : ∃ l, KL kb L i = l := ⟨_, rfl⟩
        have hll : l.length ≤ 4096 := by rw [← hl]; have := KL_len kb L i; omega
        have HLL := hide hl
        rw [hl] at HOR
        obtain ⟨W5, hW5⟩ : ∃ W5, ((W3.alloc (.cells #[.string f, .map (some db), .slice oa k oc, .map (some fb)] 28)).alloc (.cells #[.string f, .string nm, .string ⟨#[]⟩, .string ⟨#[]⟩, .string ⟨#[]⟩, .int .i64 0, .int .i64 pv] 47)).drew = W5 := ⟨_, rfl⟩
        have hb5 : Below W3.heap.size W3 W5 := by rw [← hW5]; exact (((Below.refl _ _).alloc (Nat.le_refl _) _).alloc (by simp) _).drew
        have hs5 : W5.heap.size = W3.heap.size + 2 := by rw [← hW5]; simp [World.drew]
        have hrow5 : W5.heap[W3.heap.size + 1]? = some (.cells (pmC f nm pv).toArray 47 (0, 0)) := by
          rw [← hW5]
          show (World.alloc _ _).heap[_]? = _
          exact heap_at _ _ (by simp)
        obtain ⟨v', w', hr, hown', hgr', -⟩ := run_append_own (P := Yba.prog) W5 W0.heap.size 38 38 47 i0 _ 7 96 Yba.underlying38 hi hz0 hz1 hz2 rfl (by decide) ov l.length _ (own_below HOR.out.1 hb5) ⟨W3.heap.size + 1, 0, none⟩ 1 1 (pmC f nm pv) rfl (fun j u hu => by rw [Addr.add_mid, Nat.zero_add, cell_of_row _ _ _ _ _ _ hrow5]; simpa using hu) (pmC_one f nm pv) (by unfold maxLen; omega) (by omega) (by rw [hs5]; have := HBS0.out.size; omega)
        have HN : Hid (Or W0.heap.size w' f fst v' (KL kb L (i + 1)) ∧ Below W0.heap.size W0 w') := by
          refine ⟨⟨?_, ?_⟩, ?_⟩
          · rw [KL_keep (by rw [HNM.out]; exact HBK.out), HNM.out, HLL.out, List.length_append]
            rw [← HPV.out] at hown'
            rw [show l.length + [nm].length = l.length + 1 from rfl, flat_snoc]
            exact hown'
          · rw [KL_keep (by rw [HNM.out]; exact HBK.out)]
            intro h
            exact absurd h (by simp)
          · refine (HBS0.out.trans (hb5.mono HBS0.out.size)).grown hgr' (by rw [hs5]; have := HBS0.out.size; omega) (fun x hx => ?_)
            rcases HOR.out.1.2 with ⟨h, _⟩ | ⟨g, cap, cur, h, hb', _⟩
            · rw [h] at hx; simp [Value.ownBlock] at hx
            · rw [h] at hx; simp [Value.ownBlock] at hx; omega
        have hkeep : ∀ x, x < W3.heap.size → some x ≠ ov.ownBlock → w'.heap[x]? = W3.heap[x]? := fun x hx hne => (hgr'.block x (by omega) hne).trans (hb5.block x hx)
        have hnb : ∀ g, ov.ownBlock = some g → W0.heap.size ≤ g ∧ g < wr.heap.size := fun g hg => by
          rcases HX.out.1.1.2 with ⟨h, _⟩ | ⟨g', cap, cur, h, hb', hg', _⟩
          · rw [h] at hg; simp [Value.ownBlock] at hg
          · rw [h] at hg; simp [Value.ownBlock] at hg
            rw [← hg]
            exact ⟨hb', (Array.getElem?_eq_some_iff.1 hg').1⟩
        have hsz3' : wr.heap.size < W3.heap.size := by have := HB3.out.size; rw [HS1.out] at this; omega
        have hwb3 : w.heap.size < W3.heap.size := by have := HBS0.out.size; rw [HSZ.out] at this; omega
        have hrow6 := (hkeep w.heap.size hwb3 (fun h => by have := (hnb _ h.symm).1; rw [HSZ.out] at this; omega)).trans hrow3
        have hrow7 := (hkeep wr.heap.size hsz3' (fun h => by have := (hnb _ h.symm).2; omega)).trans hrow4
        have k0 : w'.cell? ⟨w.heap.size, 0, none⟩ = some (.string f) := cell_of_row _ _ _ _ _ _ hrow6
        have k1 : w'.cell? ⟨w.heap.size, 1, none⟩ = some (.map (some db)) := cell_of_row _ _ _ _ _ _ hrow6
        have k2 : w'.cell? ⟨w.heap.size, 2, none⟩ = some (.slice oa k oc) := cell_of_row _ _ _ _ _ _ hrow6
        have k3 : w'.cell? ⟨w.heap.size, 3, none⟩ = some (.map (some fb)) := cell_of_row _ _ _ _ _ _ hrow6
        have k4 : w'.cell? ⟨wr.heap.size, 0, none⟩ = some (.string f) := cell_of_row _ _ _ _ _ _ hrow7
        have k5 : w'.cell? ⟨wr.heap.size, 1, none⟩ = some (.string nm) := cell_of_row _ _ _ _ _ _ hrow7
        rw [hwb] at k0 k1 k2 k3
        rw [hrb] at k4 k5
        rw [← hW5] at hr
        have HR := hide hr
        clear hr hb5 hs5 hrow5 hown' hgr' hpv hl hW5 hkeep hnb hsz3' hwb3 hrow6 hrow7 hrow3 hrow4
        go_wp2_with fail
        go_region_held3 (fun w' => w'.cell? ⟨wb, 0, none⟩ = some (.string f) ∧ w'.cell? ⟨wb, 1, none⟩ = some (.map (some db)) ∧ w'.cell? ⟨wb, 2, none⟩ = some (.slice oa k oc) ∧ w'.cell? ⟨wb, 3, none⟩ = some (.map (some fb)) ∧ w'.cell? ⟨rb, 0, none⟩ = some (.string f) ∧ w'.cell? ⟨rb, 1, none⟩ = some (.string nm)) (go_keep)
          (first | (rw [if_pos (by rfl)]; refine wp_of_append (.tmp 25) (.tmp 33) 38 38 rfl rfl rfl rfl HR.out ?_) | (go_at_call 11; refine (HPL.out W3.drew (Below.refl _ _).drew).mono ?_; rintro e W4 ⟨rfl, rfl⟩))
        subst hwb
        subst hrb
        go_wp2_with fail
        go_roundw
        case rel => first | exact ⟨_, i + 1, rfl, by omega, by go_num, HN⟩ | ((repeat apply Exists.intro); refine ⟨?_, rfl⟩; exact ⟨_, i + 1, rfl, by omega, by go_num, HN⟩)
        case measure => simp [intOf]; omega
    · have hin' : i = n := by omega
      have hin2 : ¬ (i : Int) < (n : Int) := by omega
      by_cases hl0 : KL kb L n = []
      · have hov2 : ov = .slice none 0 0 := HX.out.1.2 (by rw [hin']; exact hl0)
        subst hov2
        have HBEL := hide hbel
        have HC := hide (sort_nil none 0 (.func (.func 13) #[] #[]) wr)
        have HL0 := hide hl0
        clear hbel hbw hl0 hin'
        go_wp2_with fail
        refine HC.out.mono ?_
        rintro e w' ⟨rfl, hw'⟩
        obtain rfl := hw'.symm
        go_wp2_with fail
        go_ret
        exact ⟨none, 0, by rw [HL0.out]; rfl, HBEL.out, .inl ⟨HL0.out, rfl⟩⟩
      · obtain ⟨l, hl⟩ : ∃ l, KL kb L n = l := ⟨_, rfl⟩
        have hown := HX.out.1.1
        rw [hin', hl] at hown
        rw [hl] at hl0
        have hpos : 0 < l.length := List.length_pos_iff.2 hl0
        have hlen : l.length ≤ 4096 := by rw [← hl]; have := KL_len kb L n; omega
        obtain ⟨a, cap, rfl, hrs⟩ := Rb.of_own (F := kF f fst l) (n := l.length) (fun _ _ => rfl) hown
        rcases hrs with ⟨_, h0⟩ | ⟨g, rfl, hrb⟩
        · omega
        · have HC := hide (sort_any W0.heap.size g l.length cap f (nmF l) (plF fst l) wr ⟨hrb⟩ (by omega))
          have hg : w.heap.size ≤ g := by have := hrb.base; rw [HSZ.out] at this; omega
          have HBEL := hide hbel
          have HLL := hide hl
          have HPOS := hide hpos
          have HG := hide hg
          clear hbel hbw hl0 hin' hown hrb hl hg hpos
          go_wp2_with fail
          refine HC.out.mono ?_
          rintro e w' ⟨rfl, q, hs, hr, hP, hK⟩
          have HX := hide (And.intro hs (And.intro hr (And.intro hP hK)))
          clear hs hr hP hK HC
          go_wp2_with fail
          go_ret
          rw [HLL.out]
          exact ⟨_, cap, rfl, HBEL.out.trans (HX.out.2.2.2.toBelow HG.out HBEL.out.size), .inr ⟨HPOS.out, g, q, rfl, HX.out.1, HX.out.2.1, HX.out.2.2.1.mono (by have := HSZ.out; omega)⟩⟩
end Go.Proofs.Ybulkedom
