import Derived.Test.YbulkedksFmtVld
namespace Go.Proofs.YbulkedksFmt
open Go.RowKit Go.Extern.Stop Go.Stop Go.Extern
set_option linter.unusedVariables false
attribute [local go_sem ↓] Go.wp_at_zero Go.wp_at_succ

/-- A whole value loaded out of the block that holds just that. -/
theorem range_whole (w : World) (CL : List Value) (t : TypeId) : (w.alloc (.cells CL.toArray t)).rangeAt w.heap.size 0 CL := by
  intro j v hj
  rw [cell_of_row _ _ _ _ _ _ (heap_alloc_new w _)]
  simpa using hj

theorem bel_over2 {w wr : World} {o : Obj} {w1 : World} (hb : Below w.heap.size w wr) (h : Below (wr.alloc o).heap.size (wr.alloc o) w1) : Below w.heap.size w w1 :=
  (hb.alloc hb.size _).trans (h.mono (by have := hb.size; simp; omega))

theorem keep1 {W : World} {o : Obj} {w1 : World} {p : Addr} {v : Value} (hb : Below (W.alloc o).heap.size (W.alloc o) w1) (hp : p.block < W.heap.size) (h : W.cell? p = some v) : w1.cell? p = some v := by
  rw [hb.cell (by simp; omega), World.cell?_alloc_lt _ _ _ hp]; exact h
theorem keep0 {W : World} {o : Obj} {w1 : World} {i : Nat} {v : Value} (hb : Below (W.alloc o).heap.size (W.alloc o) w1) (h : (W.alloc o).cell? ⟨W.heap.size, i, none⟩ = some v) : w1.cell? ⟨W.heap.size, i, none⟩ = some v := by
  rw [hb.cell (by simp)]; exact h

set_option maxRecDepth 100000 in
set_option maxHeartbeats 4000000 in
theorem vld_zero (M : Nat) (id : ByteArray) (size cs : Int) (a : Option Addr) (n : Nat) (l : List Ck) (w : World) (hid : id.size ≤ maxLen) (hM : ManAt w M id size cs (.slice a n n)) (hC : CksAt w a n l) (hn : n ≤ 1048576) (hMw : M < w.heap.size)
    (hsum : sumB id = true) (p1 : 0 ≤ size) (p3 : cs = 0) :
    Calls Ybaf.prog 8 #[.pointer (some ⟨M, 0, none⟩)] w (VldPost (validB id size cs l) w) := by
  obtain ⟨c0, c1, c2, c3⟩ := hM
  obtain ⟨hnl, h32, hC⟩ := hC
  subst p3
  have HNL := hide hnl
  clear hnl
  go_enter Ybaf.func8, Ybaf.ntmps8
  go_wp2_with (go_at_call 10; refine (ValidSum_any _ _ hid).mono ?_; rintro e w' ⟨rfl, hw⟩; obtain rfl := hw.symm)
  go_loopw [4, 103] (fun at_ i wr => ∃ (k : Nat) (x : Int), k ≤ n ∧ i = .int .i64 k ∧ at_ = .int .i64 x ∧ Hid (runC size 0 0 l = runC size 0 x (l.drop k)) ∧ Below w.heap.size w wr) (fun _ i _ => n - (intOf i).toNat)
  case atStart => exact ⟨0, 0, by omega, rfl, rfl, by simp [Hid], Below.refl _ _⟩
  case round =>
    obtain ⟨k, x, hk, rfl, rfl, hrun, hbel⟩ := hrel
    have d1 := (hbel.cell (p := ⟨M, 1, none⟩) hMw).trans c1
    have d2 := (hbel.cell (p := ⟨M, 2, none⟩) hMw).trans c2
    have d3 := (hbel.cell (p := ⟨M, 3, none⟩) hMw).trans c3
    by_cases hlt : k < n
    · rcases hC with ⟨_, rfl⟩ | ⟨g, rfl, hg, hC⟩
      · have := HNL.out; simp at this; omega
      have hkl : k < l.length := by have := HNL.out; omega
      have hr := hC k hkl
      have hr' : wr.rangeAt g (k * 34) l[k].cells := fun j v hv => (hbel.cell (p := ⟨g, k * 34 + j, none⟩) hg).trans (hr j v hv)
      have h32' := h32 _ (List.getElem_mem hkl)
      obtain ⟨ho, hl34, hz, hz', h0, h1, hrg, hz30, he⟩ := ck_facts l[k] h32' wr
      have HF := hide (fun W => follows_any l[k] x h32' W)
      have HN : Hid (stepC size 0 x l[k] = none → validB id size 0 l = false) := valid_no hkl hrun.out
      have HY : Hid (∀ y, stepC size 0 x l[k] = some y → runC size 0 0 l = runC size 0 y (l.drop (k + 1))) := fun y => run_on hkl hrun.out
      have HB : Hid (Below w.heap.size w (wr.alloc (.cells l[k].cells.toArray 32))) := hbel.alloc hbel.size _
      clear hr hC c0 c1 c2 c3 h32 hrun hrg hz30 he h32'
      generalize l[k].cells = CL at *
      generalize l[k] = c at *
      have hMr : M < wr.heap.size := Nat.lt_of_lt_of_le hMw hbel.size
      have hrw := range_whole wr CL 32
      go_wp2_with (first | (refine at_op (.load 32 (.tmp 106)) rfl ?_; refine wpList_load_mid rfl 32 _ rfl g (k * 34) rfl _ _ hr' Ybaf.underlying32 rfl hz ?_) | (refine at_op (.store 32 _ _) rfl ?_; refine wpList_store_new rfl 32 _ _ rfl wr _ _ rfl rfl hz' rfl (by rw [hl34]; rfl) ho ?_) | (refine at_op (.load 32 (.tmp 6)) rfl ?_; refine wpList_load_mid rfl 32 _ rfl wr.heap.size 0 rfl _ _ hrw Ybaf.underlying32 rfl hz ?_))
      refine (HF.out _).mono ?_
      rintro e w2 hpost
      rcases hpost with ⟨hf, rfl, hb⟩ | ⟨hf, b, s, rfl, hs, hb⟩
      · have f1 := keep1 hb hMr d1
        have f2 := keep1 hb hMr d2
        have g1 := keep0 hb h1
        have HB2 := hide (bel_over2 hbel hb)
        clear hb hrw hr' h0 h1 d1 d2 d3 hz hz' ho HB HF
        by_cases e4 : 65536 < c.len
        · have HV := hide (HN.out (step_zero_no e4))
          clear HN HY
          go_wp2
          go_quiet (fail)
          go_wp2_with (go_at_call 9; refine (errf8 _ _ _ (cell_nw _ _ _ _ _ _ rfl rfl) (cell_nw _ _ _ _ _ _ rfl rfl) (cell_nw _ _ _ _ _ _ rfl rfl)).mono ?_; rintro e w3 ⟨b, s, rfl, hs, hb⟩)
          go_ret
          exact .inr ⟨HV.out, _, rfl, ⟨b, s, .inl rfl, hs⟩, bel_over2 (below_drewN HB2.out _) hb⟩
        · have HV := hide (HY.out _ (show stepC size 0 x c = some (wrap64 (x + c.len)) by simp [stepC, hf]; omega))
          clear HN HY hf
          go_wp2
          go_quiet (fail)
          go_wp2
          go_roundw
          case rel => exact ⟨k + 1, _, by omega, by go_num, rfl, HV, below_drewN HB2.out _⟩
          case measure => simp [intOf]; omega
      · have hs' : ∀ o, (w2.alloc o).cell? b = some (.string s) := fun o => (World.cell?_alloc_lt _ _ _ (World.block_lt_of_cell? _ _ hs)).trans hs
        have HV := hide (HN.out (show stepC size 0 x c = none by simp [stepC, hf]))
        have HB2 := hide (bel_over2 hbel hb)
        clear hb hrw hr' h0 h1 d1 d2 d3 hz hz' ho HB HF HN HY
        go_wp2_with (go_at_call 9; refine (errf6 _ _ _ (hs' _) (cell_nw _ _ _ _ _ _ rfl rfl) (cell_nw _ _ _ _ _ _ rfl rfl)).mono ?_; rintro e w3 ⟨v, rfl, hv, hb⟩)
        go_ret
        exact .inr ⟨HV.out, v, rfl, hv, bel_over2 HB2.out hb⟩
    · have HE := hide (valid_end (id := id) (cs := 0) (by have := HNL.out; omega : l.length ≤ k) hrun.out hsum p1 (by omega) (by simp [cntB]))
      clear hrun hC
      rcases bool_or (x != size) with e1 | e1
      · go_wp2_with (go_at_call 9; refine (errf9 _ _ (cell_nw _ _ _ _ _ _ rfl rfl) (cell_nw _ _ _ _ _ _ rfl rfl)).mono ?_; rintro e w3 ⟨b, s, rfl, hs, hb⟩)
        go_ret
        exact .inr ⟨by rw [HE.out]; simpa using e1, _, rfl, ⟨b, s, .inl rfl, hs⟩, bel_over2 hbel hb⟩
      · go_wp2
        go_ret
        exact .inl ⟨by rw [HE.out]; simpa using e1, rfl, hbel⟩
end Go.Proofs.YbulkedksFmt
