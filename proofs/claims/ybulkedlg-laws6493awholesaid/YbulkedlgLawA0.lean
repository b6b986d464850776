import Derived.Test.YbulkedlgWrite
import Derived.Test.YbulkedlgFF
import Derived.Test.YbulkedlgEq
import Derived.Laws.CopyOwn
import Derived.Laws.AppendOwnNone
import Derived.Deep.DeepCutAuto
import Derived.Deep.CutBlock
namespace Go.Proofs.Ybulkedlg
open Go.RowKit
set_option linter.unusedVariables false

/-- What the law is told of its slice of bytes. -/
def ArgB (w : World) (a : Option Addr) (n : Nat) (l : List UInt8) : Prop :=
  l.length = n ∧ ((a = none ∧ n = 0) ∨ ∃ x, a = some x ∧ ∀ j v, (bs l)[j]? = some v → w.cell? (x.add j) = some v)

theorem bs_one (l : List UInt8) : ∀ v ∈ bs l, v.oneCell' = true := fun v hv => by
  simp [bs] at hv
  obtain ⟨c, _, rfl⟩ := hv
  rfl
theorem bs_len (l : List UInt8) : (bs l).length = l.length := by simp [bs]

theorem own_block {w : World} {B g n cap : Nat} {xs : List Value} (h : w.ownsRow B 5 1 (.slice (some ⟨g, 0, none⟩) n cap) n xs) : B ≤ g ∧ ∃ cur : Array Value, w.heap[g]? = some (.cells cur 5 (0, 0)) ∧ cur.size = cap ∧ n ≤ cap ∧ cap ≤ maxLen := by
  rcases h.2 with ⟨h', _⟩ | ⟨g', cap', cur, h', hb, hg, hn, hm, hs, _⟩
  · simp at h'
  · simp only [Value.slice.injEq, Option.some.injEq, Addr.mk.injEq, and_true, true_and] at h'
    obtain ⟨rfl, rfl⟩ := h'
    exact ⟨hb, cur, hg, by omega, hn, hm⟩

/-- 'copy(own, buf)' into a row as long. -/
theorem copied {w1 : World} {B g n : Nat} {l : List UInt8} (hl : l.length = n) {cur : Array Value} (hg : w1.heap[g]? = some (.cells cur 5 (0, 0))) (hs : cur.size = n) (hBg : B ≤ g) (hm : n ≤ maxLen) :
    (w1.setRow g (cur.toList.take 0 ++ (bs l ++ cur.toList.drop (0 + (bs l).length))).toArray).ownsRow B 5 1 (.slice (some ⟨g, 0, none⟩) n n) l.length (bs l) := by
  have e : (cur.toList.take 0 ++ (bs l ++ cur.toList.drop (0 + (bs l).length))) = bs l := by
    rw [bs_len, List.take_zero, List.nil_append, Nat.zero_add, List.drop_of_length_le (by simp; omega), List.append_nil]
  rw [e, ← hl]
  refine ⟨by simp [bs_len], .inr ⟨g, l.length, (bs l).toArray, rfl, hBg, setRow_heap w1 g cur _ 5 (0, 0) hg, Nat.le_refl _, by omega, by simp [bs_len], List.take_of_length_le (by simp [bs_len])⟩⟩

theorem own_shape_any {w : World} {B : Nat} {v : Value} {k : Nat} {xs : List Value} (h : w.ownsRow B 5 1 v k xs) : ∃ ao cp, v = .slice ao k cp := by
  rcases h.2 with ⟨rfl, rfl⟩ | ⟨g, cap, cur, rfl, _⟩
  · exact ⟨none, 0, rfl⟩
  · exact ⟨_, cap, rfl⟩

theorem Bw.later {B T : Nat} {w w' : World} {v : Value} {l : List UInt8} {acc n : Int} {plain : Bool} (h : Bw B T w v l acc n plain) (hb : Below w.heap.size w w') : Bw B T w' v l acc n plain := by
  refine ⟨?_, ?_, h.hB⟩
  · unfold BwB; rw [hb.block T h.blk.lt]; exact h.blk
  · refine ⟨h.own.1, ?_⟩
    rcases h.own.2 with h' | ⟨g, cap, cur, rfl, h1, h2, r⟩
    · exact .inl h'
    · exact .inr ⟨g, cap, cur, rfl, h1, by rw [hb.block g (Array.getElem?_eq_some_iff.1 h2).1]; exact h2, r⟩

/-- The law's own 'want' in the loop of four. -/
structure Wn (w3 W : World) (v : Value) (l : List UInt8) (Q : Nat) (q : List UInt8) : Prop where
  own : W.ownsRow w3.heap.size 5 1 v l.length (bs l)
  blk : W.heap[Q]? = some (.cells (bs q).toArray 32 (0, 0))
  bel : Below w3.heap.size w3 W

theorem Wn.app {w3 W w1 : World} {o : Obj} {v v' : Value} {l q : List UInt8} {Q : Nat} (h : Wn w3 W v l Q q) (c : UInt8) (hown : w1.ownsRow w3.heap.size 5 1 v' (l.length + 1) (bs l ++ bs [c])) (hg : (W.alloc o).grownBy w1 v.ownBlock) : Wn w3 w1 v' (l ++ [c]) Q q := by
  have hlt : Q < W.heap.size := (Array.getElem?_eq_some_iff.1 h.blk).1
  have hne : some Q ≠ v.ownBlock := by
    intro e
    rcases h.own.2 with ⟨rfl, _⟩ | ⟨g, cap, cur, rfl, _, hg, _⟩
    · simp [Value.ownBlock] at e
    · simp [Value.ownBlock] at e
      subst e
      have := h.blk
      rw [hg] at this
      simp at this
  refine ⟨by rw [List.length_append, bs_append]; exact hown, ?_, ?_⟩
  · rw [hg.block Q (by simp; omega) hne, Below.heap_alloc _ _ _ hlt]; exact h.blk
  · exact (h.bel.alloc h.bel.size o).grown hg (by have := h.bel.size; simp; omega) (fun k hk => (h.own.lt k hk).1)

theorem Wn.cell {w3 W : World} {v : Value} {l q : List UInt8} {Q : Nat} (h : Wn w3 W v l Q q) (k : Nat) (hk : k < q.length) : W.cell? ⟨Q, k, none⟩ = some (.int .u8 q[k].toNat) := by
  rw [cell_of_row _ _ _ _ _ _ h.blk]
  simp [bs, hk]

/-- What the law's loop has appended behind k rounds. -/
def outK (plain : Bool) (q : List UInt8) (k : Nat) : List UInt8 := if plain then q.take k else (q.take k).flatMap stuff
theorem outK_succ (plain : Bool) (q : List UInt8) (k : Nat) (hk : k < q.length) : outK plain q (k + 1) = outK plain q k ++ (if plain then [q[k]] else stuff q[k]) := by
  have e := List.take_succ_eq_append_getElem hk
  cases plain
  · simp only [outK, Bool.false_eq_true, if_false]
    rw [e, List.flatMap_append]
    simp
  · simp only [outK, if_true]
    exact e
theorem outK_zero (plain : Bool) (q : List UInt8) : outK plain q 0 = [] := by cases plain <;> simp [outK]
theorem outK_four (plain : Bool) (x : Int) : outK plain (bytes4 x) 4 = outOf plain x := by cases plain <;> simp [outK, outOf, bytes4]
theorem word_lo (A m : Int) (h0 : 0 ≤ m) (h : m < 64) : A / 2 ^ m.toNat % 4294967296 = wordOf A m := by
  unfold wordOf
  rw [Nat.min_eq_left (by omega)]
theorem word_hi (A m : Int) (hA0 : 0 ≤ A) (hA1 : A ≤ 18446744073709551615) (h : 64 ≤ m) : wordOf A m = 0 := by
  unfold wordOf
  rw [Nat.min_eq_right (by omega)]
  have : A / 2 ^ 64 = 0 := Int.ediv_eq_zero_of_lt hA0 (by omega)
  rw [this]; rfl
theorem Wn.start {w3 wc : World} {ao : Option Addr} {len cp : Nat} {l : List UInt8} {plain : Bool} {x : Int} (hl : l.length = len) (ho : wc.ownsRow w3.heap.size 5 1 (.slice ao len cp) l.length (bs l)) (hb : Below w3.heap.size w3 wc) (C : Array Value) (hC : C = (bs (bytes4 x)).toArray) :
    Wn w3 (wc.alloc (.cells C 32)) (.slice ao len cp) (l ++ outK plain (bytes4 x) 0) wc.heap.size (bytes4 x) := by
  subst hC
  rw [outK_zero, List.append_nil]
  exact ⟨ho.alloc _, heap_alloc_new wc _, hb.alloc hb.size _⟩
theorem outK_len (plain : Bool) (q : List UInt8) (k : Nat) (hk : k ≤ 4) : (outK plain q k).length ≤ 8 := by
  have h : ∀ q : List UInt8, (q.flatMap stuff).length ≤ 2 * q.length := by
    intro q
    induction q with
    | nil => simp
    | cons c q ih =>
      rw [List.flatMap_cons, List.length_append, List.length_cons]
      have : (stuff c).length ≤ 2 := by unfold stuff; split <;> simp
      omega
  unfold outK
  have h2 : (q.take k).length ≤ k := List.length_take_le _ _
  split
  · omega
  · have := h (q.take k); omega

theorem k_mod (k : Int) : (IntKind.u64.wrap k).tmod 64 = k % 64 := by
  rw [IntKind.wrap_u64, Int.tmod_eq_emod_of_nonneg (by omega)]
  omega

set_option maxRecDepth 100000 in
set_option maxHeartbeats 4000000 in
theorem law_x (acc n : Int) (plain : Bool) (a : Option Addr) (len cap : Nat) (l : List UInt8) (bt k : Int) (w : World) (ha0 : 0 ≤ acc) (ha1 : acc ≤ 18446744073709551615) (hb0 : 0 ≤ bt) (hb1 : bt ≤ 4294967295) (hA : ArgB w a len l) (hn : len ≤ 1048576) :
    Calls Yba.prog 3 #[.int .u64 acc, .int .i64 n, .bool plain, .slice a len cap, .int .u32 bt, .int .i64 k] w fun e w' => e = .returned (.bool true) ∧ Below w.heap.size w w' := by
  obtain ⟨i0, hi, hz0, hz1, hz2⟩ := info_parts Yba.info5
  obtain ⟨hl, hA⟩ := hA
  have HL := hide hl
  clear hl
  go_enter Yba.func3, Yba.ntmps3
  go_upto_if 26 with fail
  go_cut [13] (fun s W => ∃ ao cp, s = .slice ao len cp ∧ W.ownsRow w.heap.size 5 1 s l.length (bs l) ∧ Below w.heap.size w W)
  case first =>
    rcases hA with ⟨rfl, rfl⟩ | ⟨x, rfl, hx⟩
    · go_wp2_with fail
      go_meet
      case rel => 
        have : l = [] := List.length_eq_zero_iff.1 HL.out
        subst this
        exact ⟨none, 0, rfl, World.ownsRow_nil _ _ _ _, Below.refl _ _⟩
    · have HX := hide hx
      clear hx
      go_wp2_with (at_make; refine wpList_make_full _ rfl _ _ _ rfl w.heap.size 5 i0 _ 1 Yba.underlying23 hi hz0 hz1 _ _ _ _ len rfl rfl (by rfl) (by rfl) (by rw [hz2]; omega) (by unfold maxLen; omega) (Nat.le_refl _) ?_)
      intro w1 hown hgrow
      obtain ⟨hBg, cur, hcur, hcs, _, _⟩ := own_block hown
      have hb1 : Below w.heap.size w w1 := (Below.refl _ _).grown hgrow (Nat.le_refl _) (by simp)
      have HS : Hid (∀ j v, (bs l)[j]? = some v → w1.cell? (x.add j) = some v) := fun j v hj => by
        have h0 := HX.out j v hj
        rw [hb1.cell (World.block_lt_of_cell? _ _ h0)]; exact h0
      have HC := hide hcur
      have HB := hide hb1
      have HD := hide hcs
      clear hown hgrow hcur hb1 hcs HX
      go_wp2_with (refine at_op (.call { callee := .builtin .copy, args := #[.tmp 30, .tmp 31], argTypes := #[23, 23] }) rfl ?_; refine wpList_copy_own rfl _ _ _ _ rfl 5 Yba.underlying23 (by kernel_rfl) w.heap.size 0 len len x len cap rfl rfl cur 5 HC.out (bs l) (by rw [bs_len, HL.out]; exact (Nat.min_self _).symm) HS.out (by rw [bs_len, HL.out, HD.out]; omega) (bs_one l) ?_)
      have HO := hide (copied (B := w.heap.size) HL.out HC.out HD.out (Nat.le_refl _) (by unfold maxLen; omega))
      have HB2 := hide (below_setRow HB.out (Nat.le_refl _) (cur.toList.take 0 ++ (bs l ++ cur.toList.drop (0 + (bs l).length))).toArray)
      generalize w1.setRow w.heap.size (cur.toList.take 0 ++ (bs l ++ cur.toList.drop (0 + (bs l).length))).toArray = W2 at *
      go_wp2_with fail
      go_meet
      case rel => exact ⟨_, _, rfl, HO.out, HB2.out⟩
  case rest =>
    obtain ⟨ao, cp, rfl, hown, hbel⟩ := hcut
    have hbw : Bw w.heap.size wc.heap.size (wc.alloc (.cells #[.nilIface, .slice ao len cp, .int .u64 acc, .int .i64 n, .bool plain] 29)) (.slice ao len cp) l acc n plain := ⟨heap_alloc_new wc _, hown.alloc _, hbel.size⟩
    have HWR := hide (write_any w.heap.size wc.heap.size _ _ l acc n bt k plain ha0 ha1 hb0 hb1 hbw (by have := HL.out; omega))
    have HB := hide (hbel.alloc hbel.size (.cells #[.nilIface, .slice ao len cp, .int .u64 acc, .int .i64 n, .bool plain] 29))
    clear hbw hown hbel
    go_wp2_with fail
    refine HWR.out.mono ?_
    rintro e w3 ⟨rfl, hb3, hcase⟩
    have HC := hide hcase
    have HB3 := hide (HB.out.trans hb3)
    clear hcase hb3 HB HWR
    obtain ⟨n1, hn1⟩ : ∃ n1, wrap64 (n + k) = n1 := ⟨_, rfl⟩
    have hn1b : n1 ≤ 9223372036854775807 := by rw [← hn1]; exact (wrap64_bd _).2
    obtain ⟨A, hAc⟩ : ∃ A, bits BinOp.or IntKind.u64 (IntKind.u64.wrap (acc * 2 ^ (k % 64).toNat)) bt = A := ⟨_, rfl⟩
    have hA0 : 0 ≤ A := by rw [← hAc]; exact (bits_u64_bd _ _ _).1
    have hA1 : A ≤ 18446744073709551615 := by rw [← hAc]; exact (bits_u64_bd _ _ _).2
    have HC' : Hid ((32 ≤ n1 ∧ ∃ v', Bw w.heap.size wc.heap.size w3 v' (l ++ emitted plain (wordOf A (n1 - 32))) A (n1 - 32) plain) ∨ (n1 < 32 ∧ Bw w.heap.size wc.heap.size w3 (.slice ao len cp) l A n1 plain)) := by
      show _ ∨ _
      have h := HC.out
      rw [show accOf acc k bt = A from hAc, hn1] at h
      exact h
    clear HC
    obtain ⟨T, hT⟩ : ∃ T, wc.heap.size = T := ⟨_, rfl⟩
    rw [hT] at HC' ⊢
    have hks := k_mod k
    have hk0 : 0 ≤ k % 64 := by omega
    have hk1 : k % 64 < 64 := by omega
    go_upto_region 13 with (at_make; refine wpList_make_own _ rfl _ _ _ rfl w3.heap.size 5 i0 _ 1 Yba.underlying23 hi hz0 hz1 _ _ _ (len + 8) rfl rfl (by omega) (by rw [hz2]; omega) (by unfold maxLen; omega) (Nat.le_refl _) ?_; intro w4 hown4 hgrow4)
    have hb4 : Below w3.heap.size w3 w4 := (Below.refl _ _).grown hgrow4 (Nat.le_refl _) (by simp)
    have HO4 := hide hown4
    have HB4 := hide hb4
    clear hown4 hgrow4 hb4
    go_cut [18] (fun s W => ∃ ao2 cp2, s = .slice ao2 len cp2 ∧ W.ownsRow w3.heap.size 5 1 s l.length (bs l) ∧ Below w3.heap.size w3 W)
    case first =>
      rcases hA with ⟨rfl, rfl⟩ | ⟨x, rfl, hx⟩
      · go_wp2_with fail
        go_meet
        case rel =>
          have : l = [] := List.length_eq_zero_iff.1 HL.out
          subst this
          exact ⟨_, _, rfl, HO4.out, HB4.out⟩
      · have HS : Hid (∀ j v, (bs l)[j]? = some v → w4.cell? (x.add j) = some v) := fun j v hj => by
          have h0 := hx j v hj
          have hlt := World.block_lt_of_cell? _ _ h0
          have h3 : w3.cell? (x.add j) = some v := by rw [HB3.out.cell hlt]; exact h0
          rw [HB4.out.cell (World.block_lt_of_cell? _ _ h3)]; exact h3
        have hlt4 : w3.heap.size ≤ w4.heap.size := HB4.out.size
        clear hx
        go_wp2_with (refine at_op (.call { callee := .builtin .append, args := #[.tmp 59, .tmp 60], argTypes := #[23, 23] }) rfl ?_; refine wpList_append_own _ rfl _ _ 23 rfl w3.heap.size 5 i0 (.int .u8 0) 1 1 Yba.underlying23 hi hz0 hz1 hz2 rfl (by decide) _ _ _ rfl HO4.out x len cap (bs l) rfl (by rw [bs_len, HL.out]; omega) HS.out (bs_one l) (by unfold maxLen; omega) (by omega) hlt4 ?_)
        intro v5 w5 hown5 hgrow5 _
        obtain ⟨ao5, cp5, rfl⟩ := own_shape_any hown5
        have HO5 : Hid (w5.ownsRow w3.heap.size 5 1 (.slice ao5 len cp5) l.length (bs l)) := by
          show World.ownsRow _ _ _ _ _ _ _
          rw [HL.out]; exact hown5
        have HB5 := hide (HB4.out.grown hgrow5 hlt4 (fun g hg => (HO4.out.lt g hg).1))
        clear hown5 hgrow5
        go_wp2_with fail
        go_meet
        case rel => exact ⟨_, _, rfl, HO5.out, HB5.out⟩
    case rest =>
      obtain ⟨ao2, cp2, rfl, hown6, hb6⟩ := hcut
      have HO6 := hide hown6
      have HB6 := hide hb6
      clear hown6 hb6 HO4 HB4
      go_upto_if 63 with fail
      go_cut [17, 18] (fun s s2 W => ∃ (l2 : List UInt8) (ao3 : Option Addr) (cp3 : Nat) (m : Int), s = .int .i64 m ∧ s2 = .slice ao3 l2.length cp3 ∧ W.ownsRow w3.heap.size 5 1 s2 l2.length (bs l2) ∧ Below w3.heap.size w3 W ∧ ((32 ≤ n1 ∧ m = n1 - 32 ∧ l2 = l ++ outOf plain (wordOf A (n1 - 32))) ∨ (n1 < 32 ∧ m = n1 ∧ l2 = l)))
      case first =>
        by_cases e32 : 32 ≤ n1
        · by_cases e64 : n1 - 32 < 64
          all_goals
            have hlen6 : l.length = len := HL.out
            have HLN := hide hlen6
            clear hlen6 hn1 hAc hT hks
            go_wp2_with fail
            try rw [show decide (32 ≤ n1) = true from decide_eq_true e32]
            try rw [show A / 2 ^ (n1 - 32).toNat % 4294967296 % 256 = A / 2 ^ (n1 - 32).toNat % 256 by omega]
            go_loopw [18, 21] (fun s i W => ∃ (j : Nat) (ao4 : Option Addr) (cp4 : Nat), j ≤ 4 ∧ i = .int .i64 j ∧ s = .slice ao4 (l ++ outK plain (bytes4 (wordOf A (n1 - 32))) j).length cp4 ∧ Wn w3 W s (l ++ outK plain (bytes4 (wordOf A (n1 - 32))) j) wc.heap.size (bytes4 (wordOf A (n1 - 32)))) (fun _ i _ => 4 - (intOf i).toNat)
            case atStart =>
              refine ⟨0, ao2, cp2, by omega, rfl, by rw [outK_zero, List.append_nil, HLN.out], ?_⟩
              refine Wn.start HLN.out HO6.out HB6.out _ ?_
              rw [bs_bytes4 _ (wordOf_bd _ _).1 (wordOf_bd _ _).2]
              first
                | (rw [word_hi A (n1 - 32) hA0 hA1 e64]; rfl)
                | (rw [← word_lo A (n1 - 32) (by omega) e64, show A / 2 ^ (n1 - 32).toNat % 4294967296 % 256 = A / 2 ^ (n1 - 32).toNat % 256 by omega])
            case round =>
              obtain ⟨j, ao4, cp4, hj, rfl, rfl, hwn⟩ := hrel
              by_cases hj4 : j < 4
              · have hjq : j < (bytes4 (wordOf A (n1 - 32))).length := by simpa [bytes4] using hj4
                have hcell := hwn.cell j hjq
                have hsucc := outK_succ plain (bytes4 (wordOf A (n1 - 32))) j hjq
                have hol := outK_len plain (bytes4 (wordOf A (n1 - 32))) j (by omega)
                have hol2 : (l ++ outK plain (bytes4 (wordOf A (n1 - 32))) j).length ≤ 1048600 := by rw [List.length_append]; have := HLN.out; omega
                have hsW : w3.heap.size ≤ wr.heap.size := hwn.bel.size
                have hQW : wc.heap.size < wr.heap.size := (Array.getElem?_eq_some_iff.1 hwn.blk).1
                have HWN := hide hwn
                have HSC := hide hsucc
                clear hwn hsucc hol
                obtain ⟨LL, hLL⟩ : ∃ LL, l ++ outK plain (bytes4 (wordOf A (n1 - 32))) j = LL := ⟨_, rfl⟩
                obtain ⟨c, hcc⟩ : ∃ c, (bytes4 (wordOf A (n1 - 32)))[j] = c := ⟨_, rfl⟩
                rw [hLL] at HWN hol2 ⊢
                rw [hcc] at hcell
                have HLL : Hid (l ++ outK plain (bytes4 (wordOf A (n1 - 32))) (j + 1) = LL ++ (if plain then [c] else stuff c)) := by
                  show _ = _
                  rw [HSC.out, ← List.append_assoc, hLL, hcc]
                clear HSC hLL
                have HCC := hide hcc
                cases plain
                · by_cases e255 : c = 255
                  · subst e255
                    clear hcc
                    go_wp2_with (refine at_op (.call { callee := .builtin .append, args := #[.tmp 92, .tmp 96], argTypes := #[23, 23] }) rfl ?_; refine wpList_append_own _ rfl _ _ 23 rfl w3.heap.size 5 i0 (.int .u8 0) 1 1 Yba.underlying23 hi hz0 hz1 hz2 rfl (by decide) _ _ _ rfl (HWN.out.own.alloc _) ⟨wr.heap.size, 0, none⟩ 1 1 (bs [255]) rfl rfl (cell_one_new _ _ _) (bs_one _) (by unfold maxLen; omega) (by omega) (by simp; omega) ?_)
                    intro v1 w1 hown1 hgrow1 _
                    obtain ⟨g1, cap1, rfl⟩ := own_shape hown1 (by omega)
                    have HW1 := hide (HWN.out.app 255 hown1 hgrow1)
                    have hc1 := HW1.out.cell j hjq
                    rw [HCC.out] at hc1
                    have hs1 : w3.heap.size ≤ w1.heap.size := HW1.out.bel.size
                    have hq1 : wc.heap.size < w1.heap.size := (Array.getElem?_eq_some_iff.1 HW1.out.blk).1
                    clear hown1 hgrow1 hcell
                    have HO2 : Hid (w1.ownsRow w3.heap.size 5 1 (.slice (some ⟨g1, 0, none⟩) (LL.length + 1) cap1) (LL.length + 1) (bs (LL ++ [255]))) := by
                      have := HW1.out.own
                      rw [List.length_append] at this
                      exact this
                    go_wp2_with (refine at_op (.call { callee := .builtin .append, args := #[.tmp 106, .tmp 107], argTypes := #[23, 23] }) rfl ?_; refine wpList_append_own _ rfl _ _ 23 rfl w3.heap.size 5 i0 (.int .u8 0) 1 1 Yba.underlying23 hi hz0 hz1 hz2 rfl (by decide) _ _ _ rfl (HO2.out.alloc _) ⟨w1.heap.size, 0, none⟩ 1 1 (bs [0]) rfl rfl (cell_one_new _ _ _) (bs_one _) (by unfold maxLen; omega) (by omega) (by simp; omega) ?_)
                    intro v2 w2 hown2 hgrow2 _
                    obtain ⟨g2, cap2, rfl⟩ := own_shape hown2 (by omega)
                    have HW2 := hide (HW1.out.app 0 (by rw [List.length_append]; exact hown2) hgrow2)
                    have es : stuff 255 = [255, 0] := by decide
                    have HR : Hid (LL ++ [255] ++ [0] = LL ++ (if false = true then [255] else stuff 255)) := by
                      show _ = _
                      simp [es]
                    clear hown2 hgrow2 HO2 hc1
                    go_wp2_with fail
                    go_roundw
                    case rel => exact ⟨j + 1, some ⟨g2, 0, none⟩, cap2, by omega, by go_num, by rw [HLL.out, ← HR.out]; simp, by rw [HLL.out, ← HR.out]; simpa using HW2.out⟩
                    case measure => simp [intOf]; omega
                  · have ec : ((c.toNat : Int) == 255) = false := by
                      simp; intro h; exact e255 (UInt8.toNat_inj.1 (by simpa using Int.ofNat_inj.1 h))
                    clear hcc
                    go_wp2_with (refine at_op (.call { callee := .builtin .append, args := #[.tmp 92, .tmp 96], argTypes := #[23, 23] }) rfl ?_; refine wpList_append_own _ rfl _ _ 23 rfl w3.heap.size 5 i0 (.int .u8 0) 1 1 Yba.underlying23 hi hz0 hz1 hz2 rfl (by decide) _ _ _ rfl (HWN.out.own.alloc _) ⟨wr.heap.size, 0, none⟩ 1 1 (bs [c]) rfl rfl (cell_one_new _ _ _) (bs_one _) (by unfold maxLen; omega) (by omega) (by simp; omega) ?_)
                    intro v1 w1 hown1 hgrow1 _
                    obtain ⟨g1, cap1, rfl⟩ := own_shape hown1 (by omega)
                    have HW1 := hide (HWN.out.app c hown1 hgrow1)
                    have hc1 := HW1.out.cell j hjq
                    rw [HCC.out] at hc1
                    clear hown1 hgrow1
                    go_wp2_with fail
                    go_roundw
                    case rel => first | exact ⟨j + 1, some ⟨g1, 0, none⟩, cap1, by omega, by go_num, by rw [HLL.out]; simp [stuff, e255], by rw [HLL.out]; simpa [stuff, e255] using HW1.out⟩ | ((repeat apply Exists.intro); refine ⟨?_, rfl⟩; exact ⟨j + 1, some ⟨g1, 0, none⟩, cap1, by omega, by go_num, by rw [HLL.out]; simp [stuff, e255], by rw [HLL.out]; simpa [stuff, e255] using HW1.out⟩)
                    case measure => simp [intOf]; omega
                · clear hcc
                  go_wp2_with (refine at_op (.call { callee := .builtin .append, args := #[.tmp 92, .tmp 96], argTypes := #[23, 23] }) rfl ?_; refine wpList_append_own _ rfl _ _ 23 rfl w3.heap.size 5 i0 (.int .u8 0) 1 1 Yba.underlying23 hi hz0 hz1 hz2 rfl (by decide) _ _ _ rfl (HWN.out.own.alloc _) ⟨wr.heap.size, 0, none⟩ 1 1 (bs [c]) rfl rfl (cell_one_new _ _ _) (bs_one _) (by unfold maxLen; omega) (by omega) (by simp; omega) ?_)
                  intro v1 w1 hown1 hgrow1 _
                  obtain ⟨g1, cap1, rfl⟩ := own_shape hown1 (by omega)
                  have HW1 := hide (HWN.out.app c hown1 hgrow1)
                  have hc1 := HW1.out.cell j hjq
                  rw [HCC.out] at hc1
                  clear hown1 hgrow1
                  go_wp2_with fail
                  go_roundw
                  case rel => first | exact ⟨j + 1, some ⟨g1, 0, none⟩, cap1, by omega, by go_num, by rw [HLL.out]; simp, by rw [HLL.out]; simpa using HW1.out⟩ | ((repeat apply Exists.intro); refine ⟨?_, rfl⟩; exact ⟨j + 1, some ⟨g1, 0, none⟩, cap1, by omega, by go_num, by rw [HLL.out]; simp, by rw [HLL.out]; simpa using HW1.out⟩)
                  case measure => simp [intOf]; omega
              · have : j = 4 := by omega
                subst this
                rw [outK_four] at hwn
                have HW := hide hwn
                clear hwn
                go_wp2_with fail
                go_meet
                case rel => exact ⟨_, ao4, cp4, n1 - 32, rfl, by rw [outK_four], HW.out.own, HW.out.bel, .inl ⟨e32, rfl, rfl⟩⟩
        · have e32' : n1 < 32 := by omega
          go_wp2_with fail
          go_meet
          case rel => exact ⟨l, ao2, cp2, n1, rfl, by rw [HL.out], HO6.out, HB6.out, .inr ⟨e32', rfl, rfl⟩⟩
      case rest =>
        obtain ⟨l2, ao3, cp3, m, rfl, rfl, hown7, hb7, hcase⟩ := hcut
        obtain ⟨v1, hbw⟩ : ∃ v1, Bw w.heap.size T w3 v1 l2 A m plain := by
          rcases hcase with ⟨h32, rfl, rfl⟩ | ⟨h32, rfl, rfl⟩
          · rcases HC'.out with ⟨_, v', h⟩ | ⟨h, _⟩
            · rw [emitted_eq plain _ (wordOf_bd _ _).1 (wordOf_bd _ _).2] at h
              exact ⟨v', h⟩
            · omega
          · rcases HC'.out with ⟨h, _⟩ | ⟨_, h⟩
            · omega
            · exact ⟨_, h⟩
        have hbw7 := hbw.later hb7
        obtain ⟨ao1, cp1, rfl⟩ := own_shape_any hbw7.own
        have HE := hide (fun q => Equal_any w.heap.size w3.heap.size (wc.drewN q) _ _ l2 l2 hbw7.own hown7)
        have HEq := hide (Equal_any w.heap.size w3.heap.size wc _ _ l2 l2 hbw7.own hown7)
        have f0 := hbw7.blk.cell 0
        have f1 := hbw7.blk.cell 1
        have f2 := hbw7.blk.cell 2
        have f3 := hbw7.blk.cell 3
        have f4 := hbw7.blk.cell 4
        simp only [List.getElem?_toArray, List.getElem?_cons_zero, List.getElem?_cons_succ] at f0 f1 f2 f3 f4
        have HBF := hide (HB3.out.trans (hb7.mono HB3.out.size))
        clear hbw hbw7 hown7 hb7 hcase HC' HO6 HB6 hA hn1 hAc hT hks
        go_wp2_with fail
        refine HEq.out.mono ?_
        rintro e9 w9 ⟨rfl, hw9⟩
        obtain rfl := hw9.symm
        go_wp2_with fail
        go_ret
        exact ⟨ret_bool (by simp), HBF.out⟩
end Go.Proofs.Ybulkedlg
