import Derived.Test.YbulkedksFmtVldZ
namespace Go.Proofs.YbulkedksFmt
open Go.RowKit Go.Extern.Stop Go.Stop Go.Extern
set_option linter.unusedVariables false
attribute [local go_sem ↓] Go.wp_at_zero Go.wp_at_succ

theorem iwrap_eq (n : Int) : IntKind.i64.wrap n = wrap64 n := by unfold wrap64; exact IntKind.wrap_i64 n
theorem iwrap_lt {a b : Int} (h : wrap64 a < b) : IntKind.i64.wrap a < b := by rw [iwrap_eq]; exact h
theorem iwrap_nlt {a b : Int} (h : b ≤ wrap64 a) : ¬ IntKind.i64.wrap a < b := by rw [iwrap_eq]; omega

theorem lo_yes {size cs x : Int} {c : Ck} (hc : 0 < cs) (hf : folB c x = true) (h4 : wrap64 (size - x) < cs) (h : (c.len != wrap64 (size - x)) = false) : stepC size cs x c = some (wrap64 (x + c.len)) := by
  have h : c.len = min cs (wrap64 (size - x)) := by rw [Int.min_eq_right (by omega)]; simpa using h
  simp only [stepC, hf, if_true, if_pos hc, if_pos h]
theorem hi_yes {size cs x : Int} {c : Ck} (hc : 0 < cs) (hf : folB c x = true) (h4 : ¬ wrap64 (size - x) < cs) (h : (c.len != cs) = false) : stepC size cs x c = some (wrap64 (x + c.len)) := by
  have h : c.len = min cs (wrap64 (size - x)) := by rw [Int.min_eq_left (by omega)]; simpa using h
  simp only [stepC, hf, if_true, if_pos hc, if_pos h]

set_option maxRecDepth 100000 in
set_option maxHeartbeats 4000000 in
theorem vld_pos (M : Nat) (id : ByteArray) (size cs : Int) (a : Option Addr) (n : Nat) (l : List Ck) (w : World) (hid : id.size ≤ maxLen) (hM : ManAt w M id size cs (.slice a n n)) (hC : CksAt w a n l) (hn : n ≤ 1048576) (hMw : M < w.heap.size)
    (hsum : sumB id = true) (p1 : 0 ≤ size) (q1 : size ≤ 9223372036854775807) (p3 : 0 < cs) (q3 : cs ≤ 9223372036854775807) (hcnt : cntB size cs n = true) :
    Calls Ybaf.prog 8 #[.pointer (some ⟨M, 0, none⟩)] w (VldPost (validB id size cs l) w) := by
  obtain ⟨c0, c1, c2, c3⟩ := hM
  obtain ⟨hnl, h32, hC⟩ := hC
  have HCN : Hid (cntB size cs l.length = true) := by show _ = _; rw [← hnl]; exact hcnt
  have HNL := hide hnl
  clear hnl
  have hodd := odd_iff p1 q1 p3 q3
  rw [cnt_plain p1 q1 p3 hn] at hcnt
  rcases bool_or (oddB size cs) with o1 | o1
  all_goals
   rw [o1] at hcnt hodd
   simp [-bne_eq_false_iff_eq] at hcnt
   clear o1
   go_enter Ybaf.func8, Ybaf.ntmps8
   go_wp2_with (go_at_call 10; refine (ValidSum_any _ _ hid).mono ?_; rintro e w' ⟨rfl, hw⟩; obtain rfl := hw.symm)
   go_quiet (fail)
   go_wp2
   go_quiet (fail)
   go_wp2
   clear hcnt hodd
   go_loopw [4, 103] (fun at_ i wr => ∃ (k : Nat) (x : Int), k ≤ n ∧ i = .int .i64 k ∧ at_ = .int .i64 x ∧ Hid (runC size cs 0 l = runC size cs x (l.drop k)) ∧ Below w.heap.size w wr) (fun _ i _ => n - (intOf i).toNat)
   case atStart => exact ⟨0, 0, by omega, rfl, rfl, by simp [Hid], below_drewN (Below.refl _ _) _⟩
   case round =>
     obtain ⟨k, x, hk, rfl, rfl, hrun, hbel⟩ := hrel
     have d1 := (hbel.cell (p := ⟨M, 1, none⟩) hMw).trans c1
     have d2 := (hbel.cell (p := ⟨M, 2, none⟩) hMw).trans c2
     have d3 := (hbel.cell (p := ⟨M, 3, none⟩) hMw).trans c3
     by_cases hlt : k < n
     · rcases hC with ⟨_, rfl⟩ | ⟨g, rfl, hg, hC⟩
       · have := HNL.out; simp at this; omega
       have hkl : k < l.length := by have := HNL.out; omega
       have hr := hC k hkl
       have hr' : wr.rangeAt g (k * 34) l[k].cells := fun j v hv => (hbel.cell (p := ⟨g, k * 34 + j, none⟩) hg).trans (hr j v hv)
       have h32' := h32 _ (List.getElem_mem hkl)
       obtain ⟨ho, hl34, hz, hz', h0, h1, hrg, hz30, he⟩ := ck_facts l[k] h32' wr
       have HF := hide (fun W => follows_any l[k] x h32' W)
       have HN : Hid (stepC size cs x l[k] = none → validB id size cs l = false) := valid_no hkl hrun.out
       have HY : Hid (∀ y, stepC size cs x l[k] = some y → runC size cs 0 l = runC size cs y (l.drop (k + 1))) := fun y => run_on hkl hrun.out
       have HB : Hid (Below w.heap.size w (wr.alloc (.cells l[k].cells.toArray 32))) := hbel.alloc hbel.size _
       clear hr hC c0 c1 c2 c3 h32 hrun hrg hz30 he h32'
       generalize l[k].cells = CL at *
       generalize l[k] = c at *
       have hMr : M < wr.heap.size := Nat.lt_of_lt_of_le hMw hbel.size
       have hrw := range_whole wr CL 32
       go_wp2_with (first | (refine at_op (.load 32 (.tmp 106)) rfl ?_; refine wpList_load_mid rfl 32 _ rfl g (k * 34) rfl _ _ hr' Ybaf.underlying32 rfl hz ?_) | (refine at_op (.store 32 _ _) rfl ?_; refine wpList_store_new rfl 32 _ _ rfl wr _ _ rfl rfl hz' rfl (by rw [hl34]; rfl) ho ?_) | (refine at_op (.load 32 (.tmp 6)) rfl ?_; refine wpList_load_mid rfl 32 _ rfl wr.heap.size 0 rfl _ _ hrw Ybaf.underlying32 rfl hz ?_))
       refine (HF.out _).mono ?_
       rintro e w2 hpost
       rcases hpost with ⟨hf, rfl, hb⟩ | ⟨hf, b, s, rfl, hs, hb⟩
       · have f1 := keep1 hb hMr d1
         have f2 := keep1 hb hMr d2
         have g1 := keep0 hb h1
         have HB2 := hide (bel_over2 hbel hb)
         clear hb hrw hr' h0 h1 d1 d2 d3 hz hz' ho HB HF
         by_cases e4 : wrap64 (size - x) < cs
         · rcases bool_or (c.len != wrap64 (size - x)) with e5 | e5
           · have HV := hide (HN.out (step_lo_no p3 e4 e5))
             clear HN HY
             go_wp2
             go_quiet (fail)
             go_wp2
             all_goals
              have hM2 : M < w2.heap.size := World.block_lt_of_cell? _ _ f1
              have hw2 := World.block_lt_of_cell? _ _ g1
              have e6 := (iwrap_lt e4)
              go_region_held3 (fun w' => w'.cell? ⟨M, 1, none⟩ = some (.int .i64 size) ∧ w'.cell? ⟨M, 2, none⟩ = some (.int .i64 cs) ∧ w'.cell? ⟨wr.heap.size, 1, none⟩ = some (.int .i64 c.len)) (go_keep)
                ((go_at_call 9; refine (errf7 _ _ _ (cell_nw _ _ _ _ _ _ rfl rfl) (cell_nw _ _ _ _ _ _ rfl rfl) (cell_nw _ _ _ _ _ _ rfl rfl)).mono ?_; rintro e w3 ⟨b, s, rfl, hs, hb⟩; have k1 := keep_cell hb hM2 f1; have k2 := keep_cell hb hM2 f2; have k3 := keep_cell hb hw2 g1))
              go_wp2
              go_ret
              exact .inr ⟨HV.out, _, rfl, ⟨b, s, .inl rfl, hs⟩, bel_over2 (below_drewN HB2.out _) hb⟩
           · have HV := hide (HY.out _ (lo_yes p3 hf e4 e5))
             clear HN HY hf
             go_wp2
             go_quiet (fail)
             go_wp2
             all_goals
              go_roundw
              case rel => exact ⟨k + 1, _, by omega, by go_num, rfl, HV, below_drewN HB2.out _⟩
              case measure => simp [intOf]; omega
         · rcases bool_or (c.len != cs) with e5 | e5
           · have HV := hide (HN.out (step_hi_no p3 e4 e5))
             clear HN HY
             go_wp2
             go_quiet (fail)
             go_wp2
             all_goals
              have hM2 : M < w2.heap.size := World.block_lt_of_cell? _ _ f1
              have hw2 := World.block_lt_of_cell? _ _ g1
              have e6 := (iwrap_nlt (by omega) : ¬ IntKind.i64.wrap (size - x) < cs)
              go_region_held3 (fun w' => w'.cell? ⟨M, 1, none⟩ = some (.int .i64 size) ∧ w'.cell? ⟨M, 2, none⟩ = some (.int .i64 cs) ∧ w'.cell? ⟨wr.heap.size, 1, none⟩ = some (.int .i64 c.len)) (go_keep)
                ((go_at_call 9; refine (errf7 _ _ _ (cell_nw _ _ _ _ _ _ rfl rfl) (cell_nw _ _ _ _ _ _ rfl rfl) (cell_nw _ _ _ _ _ _ rfl rfl)).mono ?_; rintro e w3 ⟨b, s, rfl, hs, hb⟩; have k1 := keep_cell hb hM2 f1; have k2 := keep_cell hb hM2 f2; have k3 := keep_cell hb hw2 g1))
              go_wp2
              go_ret
              exact .inr ⟨HV.out, _, rfl, ⟨b, s, .inl rfl, hs⟩, bel_over2 (below_drewN HB2.out _) hb⟩
           · have HV := hide (HY.out _ (hi_yes p3 hf e4 e5))
             clear HN HY hf
             go_wp2
             go_quiet (fail)
             go_wp2
             all_goals
              go_roundw
              case rel => exact ⟨k + 1, _, by omega, by go_num, rfl, HV, below_drewN HB2.out _⟩
              case measure => simp [intOf]; omega
       · have hs' : ∀ o, (w2.alloc o).cell? b = some (.string s) := fun o => (World.cell?_alloc_lt _ _ _ (World.block_lt_of_cell? _ _ hs)).trans hs
         have HV := hide (HN.out (show stepC size cs x c = none by simp [stepC, hf]))
         have HB2 := hide (bel_over2 hbel hb)
         clear hb hrw hr' h0 h1 d1 d2 d3 hz hz' ho HB HF HN HY
         go_wp2_with (go_at_call 9; refine (errf6 _ _ _ (hs' _) (cell_nw _ _ _ _ _ _ rfl rfl) (cell_nw _ _ _ _ _ _ rfl rfl)).mono ?_; rintro e w3 ⟨v, rfl, hv, hb⟩)
         go_ret
         exact .inr ⟨HV.out, v, rfl, hv, bel_over2 HB2.out hb⟩
     · have HE := hide (valid_end (id := id) (by have := HNL.out; omega : l.length ≤ k) hrun.out hsum p1 (by omega) HCN.out)
       clear hrun hC
       rcases bool_or (x != size) with e1 | e1
       · go_wp2_with (go_at_call 9; refine (errf9 _ _ (cell_nw _ _ _ _ _ _ rfl rfl) (cell_nw _ _ _ _ _ _ rfl rfl)).mono ?_; rintro e w3 ⟨b, s, rfl, hs, hb⟩)
         go_ret
         exact .inr ⟨by rw [HE.out]; simpa using e1, _, rfl, ⟨b, s, .inl rfl, hs⟩, bel_over2 hbel hb⟩
       · go_wp2
         go_ret
         exact .inl ⟨by rw [HE.out]; simpa using e1, rfl, hbel⟩
end Go.Proofs.YbulkedksFmt
