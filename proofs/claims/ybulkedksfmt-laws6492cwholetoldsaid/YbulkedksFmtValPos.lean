import Derived.Test.YbulkedksFmtVal
namespace Go.Proofs.YbulkedksFmt
open Go.RowKit Go.Extern.Stop Go.Stop Go.Extern
set_option linter.unusedVariables false

set_option maxRecDepth 100000 in
set_option maxHeartbeats 4000000 in
theorem valid_pos_no (M : Nat) (id : ByteArray) (size cs : Int) (a : Option Addr) (n : Nat) (l : List Ck) (w : World) (hid : id.size ≤ maxLen) (hM : ManAt w M id size cs (.slice a n n)) (hnl : n = l.length)
    (hsum : sumB id = true) (p1 : 0 ≤ size) (p3 : 0 < cs) (hcnt : cntB size cs n = false) :
    Calls Ybaf.prog 5 #[.pointer (some ⟨M, 0, none⟩)] w fun e w1 => e = .returned (.bool (validB id size cs l)) ∧ Below w.heap.size w w1 := by
  have HV : Hid (validB id size cs l = false) := by show _ = _; rw [hnl] at hcnt; simp [validB, hcnt]
  obtain ⟨c0, c1, c2, c3⟩ := hM
  unfold cntB oddB at hcnt
  rw [if_pos p3] at hcnt
  rcases bool_or (wrap64 (wrap64 (size.tdiv cs) * cs) != size) with o1 | o1
  all_goals
    rw [o1] at hcnt
    simp only [if_true, Bool.false_eq_true, if_false, Bool.not_eq_false'] at hcnt
    clear hnl
    go_enter Ybaf.func5, Ybaf.ntmps5
    go_wp2_with (go_at_call 7; refine (issum_any _ _ hid).mono ?_; rintro e w' ⟨rfl, hw⟩; obtain rfl := hw.symm)
    go_quiet (fail)
    go_wp2
    go_quiet (fail)
    go_wp2
    go_ret
    exact ⟨ret_bool HV.out.symm, below_drewN (Below.refl _ _) _⟩
set_option maxRecDepth 100000 in
set_option maxHeartbeats 4000000 in
theorem valid_pos (M : Nat) (id : ByteArray) (size cs : Int) (a : Option Addr) (n : Nat) (l : List Ck) (w : World) (hid : id.size ≤ maxLen) (hM : ManAt w M id size cs (.slice a n n)) (hC : CksAt w a n l) (hn : n ≤ 1048576) (hMw : M < w.heap.size)
    (hsum : sumB id = true) (p1 : 0 ≤ size) (p3 : 0 < cs) (hcnt : cntB size cs n = true) :
    Calls Ybaf.prog 5 #[.pointer (some ⟨M, 0, none⟩)] w fun e w1 => e = .returned (.bool (validB id size cs l)) ∧ Below w.heap.size w w1 := by
  obtain ⟨c0, c1, c2, c3⟩ := hM
  obtain ⟨hnl, h32, hC⟩ := hC
  have HCN : Hid (cntB size cs l.length = true) := by show _ = _; rw [← hnl]; exact hcnt
  have HNL := hide hnl
  clear hnl
  unfold cntB oddB at hcnt
  rw [if_pos p3] at hcnt
  rcases bool_or (wrap64 (wrap64 (size.tdiv cs) * cs) != size) with o1 | o1
  all_goals
   rw [o1] at hcnt
   simp [-bne_eq_false_iff_eq] at hcnt
   go_enter Ybaf.func5, Ybaf.ntmps5
   go_wp2_with (go_at_call 7; refine (issum_any _ _ hid).mono ?_; rintro e w' ⟨rfl, hw⟩; obtain rfl := hw.symm)
   go_quiet (fail)
   go_wp2
   go_quiet (fail)
   go_wp2
   clear o1 hcnt
   go_loopw [4, 5] (fun at_ i wr => ∃ (k : Nat) (x : Int), k ≤ n ∧ i = .int .i64 k ∧ at_ = .int .i64 x ∧ Hid (runC size cs 0 l = runC size cs x (l.drop k)) ∧ Below w.heap.size w wr) (fun _ i _ => n - (intOf i).toNat)
   case atStart => exact ⟨0, 0, by omega, rfl, rfl, by simp [Hid], below_drewN (Below.refl _ _) _⟩
   case round =>
     obtain ⟨k, x, hk, rfl, rfl, hrun, hbel⟩ := hrel
     have d1 := (hbel.cell (p := ⟨M, 1, none⟩) hMw).trans c1
     have d2 := (hbel.cell (p := ⟨M, 2, none⟩) hMw).trans c2
     have d3 := (hbel.cell (p := ⟨M, 3, none⟩) hMw).trans c3
     by_cases hlt : k < n
     · rcases hC with ⟨_, rfl⟩ | ⟨g, rfl, hg, hC⟩
       · have := HNL.out; simp at this; omega
       have hkl : k < l.length := by have := HNL.out; omega
       have hr := hC k hkl
       have hr' : wr.rangeAt g (k * 34) l[k].cells := fun j v hv => (hbel.cell (p := ⟨g, k * 34 + j, none⟩) hg).trans (hr j v hv)
       obtain ⟨ho, hl34, hz, hz', h0, h1, hrg, hz30, he⟩ := ck_facts l[k] (h32 _ (List.getElem_mem hkl)) wr
       have HN : Hid (stepC size cs x l[k] = none → validB id size cs l = false) := valid_no hkl hrun.out
       have HY : Hid (∀ y, stepC size cs x l[k] = some y → runC size cs 0 l = runC size cs y (l.drop (k + 1))) := fun y => run_on hkl hrun.out
       have HB : Hid (Below w.heap.size w (wr.alloc (.cells l[k].cells.toArray 32))) := hbel.alloc hbel.size _
       clear hr hC c0 c1 c2 c3 h32 hrun
       generalize l[k].cells = CL at *
       generalize l[k] = c at *
       have hMr : M < wr.heap.size := Nat.lt_of_lt_of_le hMw hbel.size
       rcases (show (c.off != x) = true ∨ (c.off != x) = false by cases (c.off != x) <;> simp) with e1 | e1
       · have HV := hide (HN.out (step_no1 e1))
         clear HN HY
         go_wp2_with (first | (refine at_op (.load 32 _) rfl ?_; refine wpList_load_mid rfl 32 _ rfl g (k * 34) rfl _ _ hr' Ybaf.underlying32 rfl hz ?_) | (refine at_op (.store 32 _ _) rfl ?_; refine wpList_store_new rfl 32 _ _ rfl wr _ _ rfl rfl hz' rfl (by rw [hl34]; rfl) ho ?_))
         go_ret
         exact ⟨ret_bool HV.out.symm, HB.out⟩
       by_cases e2 : c.len < 1
       · have HV := hide (HN.out (step_no2 e2))
         clear HN HY
         go_wp2_with (first | (refine at_op (.load 32 _) rfl ?_; refine wpList_load_mid rfl 32 _ rfl g (k * 34) rfl _ _ hr' Ybaf.underlying32 rfl hz ?_) | (refine at_op (.store 32 _ _) rfl ?_; refine wpList_store_new rfl 32 _ _ rfl wr _ _ rfl rfl hz' rfl (by rw [hl34]; rfl) ho ?_))
         go_ret
         exact ⟨ret_bool HV.out.symm, HB.out⟩
       have e2' : decide (c.len < 1) = false := by simpa using e2
       cases e3 : zeroB c.hs
       · rw [e3] at he
         by_cases e4 : wrap64 (size - x) < cs
         · rcases bool_or (c.len != wrap64 (size - x)) with e5 | e5
           · have HV := hide (HN.out (step_lo_no p3 e4 e5))
             clear HN HY
             go_wp2_with (first | (refine at_op (.load 32 _) rfl ?_; refine wpList_load_mid rfl 32 _ rfl g (k * 34) rfl _ _ hr' Ybaf.underlying32 rfl hz ?_) | (refine at_op (.store 32 _ _) rfl ?_; refine wpList_store_new rfl 32 _ _ rfl wr _ _ rfl rfl hz' rfl (by rw [hl34]; rfl) ho ?_) | (refine at_op (.load 30 _) rfl ?_; refine wpList_load_midg 30 _ rfl (by rfl) wr.heap.size 2 rfl _ _ hrg Ybaf.underlying30 rfl hz30 ?_))
             go_ret
             exact ⟨ret_bool HV.out.symm, HB.out⟩
           · have HV := hide (HY.out _ (step_lo_yes p3 e1 (by omega) e3 e4 e5))
             clear HN HY e3
             go_wp2_with (first | (refine at_op (.load 32 _) rfl ?_; refine wpList_load_mid rfl 32 _ rfl g (k * 34) rfl _ _ hr' Ybaf.underlying32 rfl hz ?_) | (refine at_op (.store 32 _ _) rfl ?_; refine wpList_store_new rfl 32 _ _ rfl wr _ _ rfl rfl hz' rfl (by rw [hl34]; rfl) ho ?_) | (refine at_op (.load 30 _) rfl ?_; refine wpList_load_midg 30 _ rfl (by rfl) wr.heap.size 2 rfl _ _ hrg Ybaf.underlying30 rfl hz30 ?_))
             go_roundw
             case rel => exact ⟨k + 1, _, by omega, by go_num, rfl, HV, HB.out⟩
             case measure => simp [intOf]; omega
         · rcases bool_or (c.len != cs) with e5 | e5
           · have HV := hide (HN.out (step_hi_no p3 e4 e5))
             clear HN HY
             go_wp2_with (first | (refine at_op (.load 32 _) rfl ?_; refine wpList_load_mid rfl 32 _ rfl g (k * 34) rfl _ _ hr' Ybaf.underlying32 rfl hz ?_) | (refine at_op (.store 32 _ _) rfl ?_; refine wpList_store_new rfl 32 _ _ rfl wr _ _ rfl rfl hz' rfl (by rw [hl34]; rfl) ho ?_) | (refine at_op (.load 30 _) rfl ?_; refine wpList_load_midg 30 _ rfl (by rfl) wr.heap.size 2 rfl _ _ hrg Ybaf.underlying30 rfl hz30 ?_))
             go_ret
             exact ⟨ret_bool HV.out.symm, HB.out⟩
           · have HV := hide (HY.out _ (step_hi_yes p3 e1 (by omega) e3 e4 e5))
             clear HN HY e3
             go_wp2_with (first | (refine at_op (.load 32 _) rfl ?_; refine wpList_load_mid rfl 32 _ rfl g (k * 34) rfl _ _ hr' Ybaf.underlying32 rfl hz ?_) | (refine at_op (.store 32 _ _) rfl ?_; refine wpList_store_new rfl 32 _ _ rfl wr _ _ rfl rfl hz' rfl (by rw [hl34]; rfl) ho ?_) | (refine at_op (.load 30 _) rfl ?_; refine wpList_load_midg 30 _ rfl (by rfl) wr.heap.size 2 rfl _ _ hrg Ybaf.underlying30 rfl hz30 ?_))
             go_roundw
             case rel => exact ⟨k + 1, _, by omega, by go_num, rfl, HV, HB.out⟩
             case measure => simp [intOf]; omega
       · rw [e3] at he
         have HV := hide (HN.out (step_no3 e3))
         clear HN HY
         go_wp2_with (first | (refine at_op (.load 32 _) rfl ?_; refine wpList_load_mid rfl 32 _ rfl g (k * 34) rfl _ _ hr' Ybaf.underlying32 rfl hz ?_) | (refine at_op (.store 32 _ _) rfl ?_; refine wpList_store_new rfl 32 _ _ rfl wr _ _ rfl rfl hz' rfl (by rw [hl34]; rfl) ho ?_) | (refine at_op (.load 30 _) rfl ?_; refine wpList_load_midg 30 _ rfl (by rfl) wr.heap.size 2 rfl _ _ hrg Ybaf.underlying30 rfl hz30 ?_))
         go_ret
         exact ⟨ret_bool HV.out.symm, HB.out⟩
     · have HV := hide (valid_end (id := id) (by have := HNL.out; omega : l.length ≤ k) hrun.out hsum p1 (by omega) HCN.out)
       go_wp2
       go_ret
       exact ⟨ret_bool HV.out.symm, hbel⟩
end Go.Proofs.YbulkedksFmt
