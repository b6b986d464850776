import Derived.Test.YbulkedksFmtVal
import Derived.Deep.RegionHeld3
import Derived.Deep.DrawnRows
namespace Go.Proofs.YbulkedksFmt
open Go.RowKit Go.Extern.Stop Go.Stop Go.Extern
set_option linter.unusedVariables false

/-- What Validate leaves. -/
def VldPost (b : Bool) (w : World) : Ending → World → Prop := fun e w1 => (b = true ∧ e = .returned .nilIface ∧ Below w.heap.size w w1) ∨ (b = false ∧ ErrPost w e w1)

theorem bel_over {w : World} {o : Obj} {w1 : World} (h : Below (w.alloc o).heap.size (w.alloc o) w1) : Below w.heap.size w w1 :=
  ((Below.refl _ _).alloc (Nat.le_refl _) _).trans (h.mono (by simp))

set_option maxRecDepth 100000 in
set_option maxHeartbeats 1000000 in
theorem vld_easy (M : Nat) (id : ByteArray) (size cs : Int) (sv : Value) (l : List Ck) (w : World) (hid : id.size ≤ maxLen) (hM : ManAt w M id size cs sv) (hMw : M < w.heap.size) (hno : sumB id = false ∨ size < 0 ∨ cs < 0) :
    Calls Ybaf.prog 8 #[.pointer (some ⟨M, 0, none⟩)] w (VldPost (validB id size cs l) w) := by
  obtain ⟨c0, c1, c2, c3⟩ := hM
  cases hsum : sumB id
  · have HP : Hid (validB id size cs l = false) := by show _ = _; simp [validB, hsum]
    go_enter Ybaf.func8, Ybaf.ntmps8
    go_wp2_with (first | (go_at_call 10; refine (ValidSum_any _ _ hid).mono ?_; rintro e w' ⟨rfl, hw⟩; obtain rfl := hw.symm) | (go_at_call 9; refine (errf2 id (by simp)).mono ?_; rintro e w1 ⟨a, s, rfl, hs, hb⟩))
    go_ret
    exact .inr ⟨HP.out, _, rfl, ⟨a, s, .inl rfl, hs⟩, bel_over hb⟩
  have hno : size < 0 ∨ cs < 0 := by simpa [hsum] using hno
  have HP : Hid (validB id size cs l = false) := by show _ = _; simp [validB]; omega
  by_cases h1 : size < 0
  · go_enter Ybaf.func8, Ybaf.ntmps8
    go_wp2_with (first | (go_at_call 10; refine (ValidSum_any _ _ hid).mono ?_; rintro e w' ⟨rfl, hw⟩; obtain rfl := hw.symm) | (go_at_call 9; refine (errf3 size (by simp)).mono ?_; rintro e w1 ⟨a, s, rfl, hs, hb⟩))
    go_ret
    exact .inr ⟨HP.out, _, rfl, ⟨a, s, .inl rfl, hs⟩, bel_over hb⟩
  · have h2 : cs < 0 := by omega
    go_enter Ybaf.func8, Ybaf.ntmps8
    go_wp2_with (first | (go_at_call 10; refine (ValidSum_any _ _ hid).mono ?_; rintro e w' ⟨rfl, hw⟩; obtain rfl := hw.symm) | (go_at_call 9; refine (errf4 cs (by simp)).mono ?_; rintro e w1 ⟨a, s, rfl, hs, hb⟩))
    go_ret
    exact .inr ⟨HP.out, _, rfl, ⟨a, s, .inl rfl, hs⟩, bel_over hb⟩

/-- The two ways to ask whether a last, shorter chunk is wanted are one. -/
theorem odd_iff {size cs : Int} (h0 : 0 ≤ size) (h1 : size ≤ 9223372036854775807) (h2 : 0 < cs) (h3 : cs ≤ 9223372036854775807) : (size % cs != 0) = oddB size cs := by
  have e1 : size.tdiv cs = size / cs := Int.tdiv_eq_ediv_of_nonneg h0
  have m0 : 0 ≤ size % cs := Int.emod_nonneg _ (by omega)
  have m1 : size % cs < cs := Int.emod_lt_of_pos _ h2
  have d0 : 0 ≤ size / cs := Int.ediv_nonneg h0 (by omega)
  have hd : size / cs * cs = size - size % cs := by
    have := Int.mul_ediv_add_emod size cs; rw [Int.mul_comm] at this; omega
  have d1 : size / cs ≤ size := Int.ediv_le_self _ h0
  have w1 : wrap64 (size / cs) = size / cs := by unfold wrap64; omega
  have w3 : wrap64 (size - size % cs) = size - size % cs := by unfold wrap64; omega
  unfold oddB
  rw [e1, w1, hd, w3, Bool.eq_iff_iff]
  simp
  omega

/-- The number of chunks, in the form that the walk comes to where the bounds are at hand. -/
theorem cnt_plain {size cs : Int} {n : Nat} (h0 : 0 ≤ size) (h1 : size ≤ 9223372036854775807) (h2 : 0 < cs) (hn : n ≤ 1048576) :
    cntB size cs n = if oddB size cs then !((n : Int) != wrap64 (size / cs + 1)) else !((n : Int) != size / cs) := by
  have e1 : size.tdiv cs = size / cs := Int.tdiv_eq_ediv_of_nonneg h0
  have d0 : 0 ≤ size / cs := Int.ediv_nonneg h0 (by omega)
  have d1 : size / cs ≤ size := Int.ediv_le_self _ h0
  have w1 : wrap64 (size / cs) = size / cs := by unfold wrap64; omega
  unfold cntB
  rw [if_pos h2, e1, w1]

theorem cell_nw (W : World) (g : Nat) (C : Array Value) (t : TypeId) (i : Nat) (v : Value) (hg : g = W.heap.size) (h : C[i]? = some v) : (W.alloc (.cells C t)).cell? ⟨g, i, none⟩ = some v := by
  rw [World.cell?_alloc_at (w := W) C t g i hg]; exact h
theorem keep_cell {w : World} {k : Nat} {o : Obj} {w1 : World} {p : Addr} {v : Value} (hb : Below ((w.drewN k).alloc o).heap.size ((w.drewN k).alloc o) w1) (hp : p.block < w.heap.size) (h : w.cell? p = some v) : w1.cell? p = some v := by
  rw [hb.cell (by simp; omega)]
  have : ((w.drewN k).alloc o).cell? p = (w.drewN k).cell? p := World.cell?_alloc_lt _ _ _ hp
  rw [this]; exact h
theorem bel_dn {w : World} {k : Nat} {o : Obj} {w1 : World} (h : Below ((w.drewN k).alloc o).heap.size ((w.drewN k).alloc o) w1) : Below w.heap.size w w1 :=
  ((below_drewN (Below.refl _ _) k).alloc (Nat.le_refl _) _).trans (h.mono (by simp))

attribute [local go_sem ↓] Go.wp_at_zero Go.wp_at_succ

set_option maxRecDepth 100000 in
set_option maxHeartbeats 2000000 in
theorem vld_pos_no (M : Nat) (id : ByteArray) (size cs : Int) (a : Option Addr) (n : Nat) (l : List Ck) (w : World) (hid : id.size ≤ maxLen) (hM : ManAt w M id size cs (.slice a n n)) (hMw : M < w.heap.size) (hnl : n = l.length) (hn : n ≤ 1048576)
    (hsum : sumB id = true) (p1 : 0 ≤ size) (q1 : size ≤ 9223372036854775807) (p3 : 0 < cs) (q3 : cs ≤ 9223372036854775807) (hcnt : cntB size cs n = false) :
    Calls Ybaf.prog 8 #[.pointer (some ⟨M, 0, none⟩)] w (VldPost (validB id size cs l) w) := by
  have HV : Hid (validB id size cs l = false) := by show _ = _; rw [hnl] at hcnt; simp [validB, hcnt]
  obtain ⟨c0, c1, c2, c3⟩ := hM
  have hodd := odd_iff p1 q1 p3 q3
  rw [cnt_plain p1 q1 p3 hn] at hcnt
  rcases bool_or (oddB size cs) with o1 | o1
  all_goals
    rw [o1] at hcnt hodd
    simp only [if_true, Bool.false_eq_true, if_false, Bool.not_eq_false'] at hcnt
    clear hnl o1
    go_enter Ybaf.func8, Ybaf.ntmps8
    go_wp2_with (go_at_call 10; refine (ValidSum_any _ _ hid).mono ?_; rintro e w' ⟨rfl, hw⟩; obtain rfl := hw.symm)
    go_quiet (fail)
    go_wp2
    go_quiet (fail)
    go_wp2
    go_region_held3 (fun w' => w'.cell? ⟨M, 1, none⟩ = some (.int .i64 size) ∧ w'.cell? ⟨M, 2, none⟩ = some (.int .i64 cs) ∧ w'.cell? ⟨M, 3, none⟩ = some (.slice a n n)) (go_keep)
      ((go_at_call 9; refine (errf5 _ _ _ _ (cell_nw _ _ _ _ _ _ rfl rfl) (cell_nw _ _ _ _ _ _ rfl rfl) (cell_nw _ _ _ _ _ _ rfl rfl) (cell_nw _ _ _ _ _ _ rfl rfl)).mono ?_; rintro e w1 ⟨b, s, rfl, hs, hb⟩; have k1 := keep_cell hb hMw c1; have k2 := keep_cell hb hMw c2; have k3 := keep_cell hb hMw c3))
    go_wp2
    go_ret
    exact .inr ⟨HV.out, _, rfl, ⟨b, s, .inl rfl, hs⟩, bel_dn hb⟩
end Go.Proofs.YbulkedksFmt
