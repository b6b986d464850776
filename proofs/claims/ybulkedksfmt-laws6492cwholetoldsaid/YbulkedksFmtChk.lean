import Derived.Test.YbulkedksFmtVldP
import Derived.Test.YbulkedksFmtValPos
namespace Go.Proofs.YbulkedksFmt
open Go.RowKit Go.Extern.Stop Go.Stop Go.Extern
set_option linter.unusedVariables false

theorem i64_bd {n : Int} (h : (Lit.int .i64 n).wf = true) : -9223372036854775808 ≤ n ∧ n ≤ 9223372036854775807 := by
  simpa [Lit.wf, IntKind.min, IntKind.max, IntKind.signed, IntKind.bits] using h

theorem valid_any (M : Nat) (id : ByteArray) (size cs : Int) (a : Option Addr) (n : Nat) (l : List Ck) (w : World) (hid : id.size ≤ maxLen) (hM : ManAt w M id size cs (.slice a n n)) (hC : CksAt w a n l) (hn : n ≤ 1048576) (hMw : M < w.heap.size) :
    Calls Ybaf.prog 5 #[.pointer (some ⟨M, 0, none⟩)] w fun e w1 => e = .returned (.bool (validB id size cs l)) ∧ Below w.heap.size w w1 := by
  cases hsum : sumB id
  · exact valid_easy M id size cs _ l w hid hM (.inl hsum)
  by_cases h1 : size < 0
  · exact valid_easy M id size cs _ l w hid hM (.inr (.inl h1))
  by_cases h2 : cs < 0
  · exact valid_easy M id size cs _ l w hid hM (.inr (.inr h2))
  by_cases h3 : cs = 0
  · exact valid_zero M id size cs a n l w hid hM hC hn hMw hsum (by omega) h3
  cases hc : cntB size cs n
  · exact valid_pos_no M id size cs a n l w hid hM hC.1 hsum (by omega) (by omega) hc
  · exact valid_pos M id size cs a n l w hid hM hC hn hMw hsum (by omega) (by omega) hc

theorem vld_any (M : Nat) (id : ByteArray) (size cs : Int) (a : Option Addr) (n : Nat) (l : List Ck) (w : World) (hid : id.size ≤ maxLen) (hs : (Lit.int .i64 size).wf = true) (hcs : (Lit.int .i64 cs).wf = true) (hM : ManAt w M id size cs (.slice a n n)) (hC : CksAt w a n l) (hn : n ≤ 1048576) (hMw : M < w.heap.size) :
    Calls Ybaf.prog 8 #[.pointer (some ⟨M, 0, none⟩)] w (VldPost (validB id size cs l) w) := by
  have b1 := i64_bd hs
  have b2 := i64_bd hcs
  cases hsum : sumB id
  · exact vld_easy M id size cs _ l w hid hM hMw (.inl hsum)
  by_cases h1 : size < 0
  · exact vld_easy M id size cs _ l w hid hM hMw (.inr (.inl h1))
  by_cases h2 : cs < 0
  · exact vld_easy M id size cs _ l w hid hM hMw (.inr (.inr h2))
  by_cases h3 : cs = 0
  · exact vld_zero M id size cs a n l w hid hM hC hn hMw hsum (by omega) h3
  cases hc : cntB size cs n
  · exact vld_pos_no M id size cs a n l w hid hM hMw hC.1 hn hsum (by omega) (by omega) (by omega) (by omega) hc
  · exact vld_pos M id size cs a n l w hid hM hC hn hMw hsum (by omega) (by omega) (by omega) (by omega) hc

set_option maxRecDepth 100000 in
set_option maxHeartbeats 1000000 in
theorem chk_any (C M : Nat) (addr wid id : ByteArray) (size cs : Int) (a : Option Addr) (n : Nat) (l : List Ck) (w : World) (hid : id.size ≤ maxLen) (hs : (Lit.int .i64 size).wf = true) (hcs : (Lit.int .i64 cs).wf = true) (hM : ManAt w M id size cs (.slice a n n)) (hC : CksAt w a n l) (hn : n ≤ 1048576) (hMw : M < w.heap.size)
    (hCw : C < w.heap.size) (hc : w.cell? ⟨C, 0, none⟩ = some (.string addr)) :
    Calls Ybaf.prog 6 #[.pointer (some ⟨C, 0, none⟩), .pointer (some ⟨M, 0, none⟩), .string wid] w (VldPost (validB id size cs l && (id.toList == wid.toList)) w) := by
  have HV := hide (fun W (h : W = w) => h ▸ vld_any M id size cs a n l w hid hs hcs hM hC hn hMw)
  have c0 := hM.c0
  clear hM hC
  have hi : Ybaf.prog.isIface 44 = true := by kernel_rfl
  go_enter Ybaf.func6, Ybaf.ntmps6
  go_wp2_with fail
  refine (HV.out _ rfl).mono ?_
  rintro e w1 (⟨hv, rfl, hb⟩ | ⟨hv, v, rfl, hv2, hb⟩)
  · have c0' := (hb.cell (p := ⟨M, 0, none⟩) hMw).trans c0
    have cc' := (hb.cell (p := ⟨C, 0, none⟩) hCw).trans hc
    rcases bool_or (id.toList == wid.toList) with e1 | e1
    · have HP := hide (show (validB id size cs l && (id.toList == wid.toList)) = true by rw [hv, e1]; rfl)
      go_wp2_with fail
      go_ret
      exact .inl ⟨HP.out, rfl, hb⟩
    · have HP := hide (show (validB id size cs l && (id.toList == wid.toList)) = false by rw [hv, e1]; rfl)
      go_wp2_with (go_at_call 9; refine (errf10 _ _ _ (.inl rfl) (cell_nw _ _ _ _ _ _ rfl rfl) (cell_nw _ _ _ _ _ _ rfl rfl) (cell_nw _ _ _ _ _ _ rfl rfl)).mono ?_; rintro e w3 ⟨b, s, rfl, hs, hb2⟩)
      go_ret
      exact .inr ⟨HP.out, _, rfl, ⟨b, s, .inl rfl, hs⟩, bel_over2 hb hb2⟩
  · have HP := hide (show (validB id size cs l && (id.toList == wid.toList)) = false by rw [hv]; rfl)
    have cc' := (hb.cell (p := ⟨C, 0, none⟩) hCw).trans hc
    have hv3 : ∀ o, ErrAt (w1.alloc o) v := fun o => by
      obtain ⟨a, s, hv, hs⟩ := hv2
      exact ⟨a, s, hv, (World.cell?_alloc_lt _ _ _ (World.block_lt_of_cell? _ _ hs)).trans hs⟩
    have HE := hide hv3
    clear hv3 hv
    obtain ⟨p, q, rfl | rfl, hq⟩ := hv2
    all_goals
      go_wp2_with (go_at_call 9; refine (errf10 _ _ _ (.inr (HE.out _)) (cell_nw _ _ _ _ _ _ rfl rfl) (cell_nw _ _ _ _ _ _ rfl rfl) (cell_nw _ _ _ _ _ _ rfl rfl)).mono ?_; rintro e w3 ⟨b, s, rfl, hs, hb2⟩)
      go_ret
      exact .inr ⟨HP.out, _, rfl, ⟨b, s, .inl rfl, hs⟩, bel_over2 hb hb2⟩
end Go.Proofs.YbulkedksFmt
