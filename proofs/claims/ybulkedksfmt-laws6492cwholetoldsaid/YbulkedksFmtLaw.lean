import Derived.Test.YbulkedksFmtTail
import Derived.Deep.RegionHeld3
namespace Go.Proofs.YbulkedksFmt
open Go.RowKit Go.Extern.Stop Go.Stop Go.Extern
set_option linter.unusedVariables false

set_option maxRecDepth 100000 in
set_option maxHeartbeats 40000000 in
theorem law_x (addr mid id : ByteArray) (im sm : Int) (hs : List UInt8) (size cs : Int) (a : Option Addr) (n cap : Nat) (last : Int) (comp : Bool) (hv : Int) (w : World)
   (hn : n ≤ 1048576) (hmid : mid.size ≤ maxLen) (hl : hs.length = 32) (cks : List Ck) (hA : ArgAt w a n cks) (wsize : (Lit.int .i64 size).wf = true) (wcs0 : (Lit.int .i64 cs).wf = true) :
    Calls Ybaf.prog 3 #[.string addr, .string mid, .string id, .int .u8 im, .int .u8 sm, .agg (hs.map cell).toArray, .int .i64 size, .int .i64 cs, .slice a n cap, .int .i64 last, .bool comp, .int .i64 hv] w fun e w1 => e = .returned (.bool true) ∧ Below w.heap.size w w1 := by
  obtain ⟨i0, hi, hz0, hz1, hz2⟩ := info_parts Ybaf.info32
  obtain ⟨hcl, hck, hax, harg⟩ := hA
  have HCL := hide hcl
  have HCK := hide hck
  have HARG := hide harg
  clear hcl hck harg
  have hsz : (Ybaf.prog.info? 22).map (·.size) = some (hs.map cell).length := by rw [List.length_map, hl]; kernel_rfl
  have hr0 := World.rangeAt_alloc (range_whole w (hs.map cell) 22) (.cells #[.string ⟨#[]⟩, .int .i64 0, .int .i64 0, .slice none 0 0, .bool comp, .int .i64 hv] 26)
  have HX := hide (fun W => hexof_bytes hs W hl)
  have HA : Hid (Below w.heap.size w ((w.alloc (.cells (hs.map cell).toArray 22)).alloc (.cells #[.string ⟨#[]⟩, .int .i64 0, .int .i64 0, .slice none 0 0, .bool comp, .int .i64 hv] 26))) := ((Below.refl _ _).alloc (Nat.le_refl _) _).alloc (by simp) _
  have HM : Hid (ManB w.heap.size ((w.alloc (.cells (hs.map cell).toArray 22)).alloc (.cells #[.string ⟨#[]⟩, .int .i64 0, .int .i64 0, .slice none 0 0, .bool comp, .int .i64 hv] 26)) ⟨#[]⟩ 0 0 (.slice none 0 0) comp hv) := ManB.new w _ _ _ _ _ _ _
  generalize hs.map cell = HL at *
  go_enter Ybaf.func3, Ybaf.ntmps3
  go_upto_block 0 with fail
  go_cut [26] (fun s W => S1 w comp hv s W)
  case first =>
    as_aux_lemma =>
      rcases bool_or (im.tmod 3 == 0) with e1 | e1
      · go_wp2_with fail
        go_meet
        case rel =>
          refine ⟨mid, id, rfl, hmid, ?_, ?_⟩
          · exact ManB.new w _ _ _ _ _ _ _
          · exact ((Below.refl _ _).alloc (Nat.le_refl _) _).alloc (by simp) _
      · rcases bool_or (im.tmod 3 == 1) with e2 | e2
        all_goals
          go_wp2_with (first | (refine at_op (.load 22 _) rfl ?_; refine wpList_load_mid rfl 22 _ rfl w.heap.size 0 rfl _ _ hr0 Ybaf.underlying22 rfl hsz ?_))
          refine (HX.out _).mono ?_
          rintro e w1 ⟨s, rfl, hsz, hb⟩
          have HM1 := hide (HM.out.below hb)
          have f0 := HM1.out.cell 0
          have f1 := HM1.out.free 0
          simp only [List.getElem?_toArray, List.getElem?_cons_zero] at f0
          have HB := hide (HA.out.trans (hb.mono (by simp; omega)))
          have HP := hide (HM1.out.put 0 (.string s))
          go_wp2_with fail
          go_meet
          case rel => exact ⟨s, _, rfl, by unfold maxLen; omega, HP.out, HB.out.setCell (by simp) _⟩
  case rest =>
    as_aux_lemma =>
      obtain ⟨id1, wid, rfl, hid1, hM, hbel⟩ := hcut
      clear HM HA HX hr0 hsz
      go_upto_if 73 with fail
      go_cut [27] (fun s W => S2 w a n id1 comp hv s W)
      case first =>
        as_aux_lemma =>
          rcases hax with ⟨rfl, rfl⟩ | ⟨x, rfl⟩
          · go_wp2_with fail
            go_meet
            case rel => exact ⟨none, rfl, hM, hbel, .inl ⟨rfl, rfl, rfl⟩⟩
          · have HM := hide hM
            have HL := hide hM.lt
            clear hM
            go_wp2_with (at_make; refine wpList_make_full _ rfl _ _ _ rfl (w.heap.size + 2) 32 i0 _ 34 Ybaf.underlying24 hi hz0 hz1 _ _ _ _ n rfl rfl (by rfl) (by rfl) (by rw [hz2]; omega) (by unfold maxLen; omega) (by have := HL.out; simp; omega) ?_)
            intro w1 hown hgrow
            have HO := hide hown
            have HG := hide hgrow
            clear hown hgrow
            go_wp2_with fail
            go_meet
            case rel => exact ⟨_, rfl, S2_make HM.out hbel HO.out HG.out⟩
      case rest =>
        as_aux_lemma =>
          obtain ⟨a1, rfl, hM, hbel, hrow⟩ := hcut
          go_upto_block 1 with fail
          go_cut [29] (fun s W => S3 w a1 n id1 comp hv W)
          case first =>
            as_aux_lemma =>
              rcases bool_or (sm.tmod 3 == 0) with e1 | e1
              · go_wp2_with fail
                go_loopw [29] (fun i W => ∃ (k : Nat) (l : List Ck), k ≤ n ∧ i = .int .i64 k ∧ l.length = k ∧ FillB w.heap.size W a1 n l ∧ ManB w.heap.size W id1 0 0 (.slice none 0 0) comp hv ∧ Below w.heap.size w W) (fun i _ => n - (intOf i).toNat)
                case atStart =>
                  refine ⟨0, [], by omega, rfl, rfl, ⟨by simp, ?_⟩, hM, hbel⟩
                  rcases hrow with ⟨_, h, h'⟩ | ⟨g, _, h, h'⟩
                  · exact .inl ⟨h, h'⟩
                  · exact .inr ⟨g, h, h', by simp⟩
                case round =>
                  as_aux_lemma =>
                    clear hM hbel hrow
                    obtain ⟨k, l, hk, rfl, hlk, hF, hM, hbel⟩ := hrel
                    by_cases hlt : k < n
                    · obtain ⟨h32, ⟨_, h0⟩ | ⟨g, rfl, hrow, hrl⟩⟩ := hF
                      · omega
                      obtain ⟨b, off, rfl, hbw, hrg⟩ := HARG.out (by omega)
                      have hkc : k < cks.length := by have := HCL.out; omega
                      have hc := (HCK.out _ (List.getElem_mem hkc)).1
                      have hr := hrg k hkc
                      generalize cks[k] = c at *
                      clear hrg
                      have hr' : wr.rangeAt b (off + k * 34) c.cells := fun j v hj => (hbel.cell (p := ⟨b, off + k * 34 + j, none⟩) hbw).trans (hr j v hj)
                      have f0 : wr.cell? ⟨b, off + k * 34, none⟩ = some (.int .i64 c.off) := hr' 0 _ rfl
                      have f1 : wr.cell? ⟨b, off + k * 34 + 1, none⟩ = some (.int .i64 c.len) := hr' 1 _ rfl
                      have f2 : wr.rangeAt b (off + k * 34 + 2) (c.hs.map cell) := fun j v hj => by
                        have := hr' (j + 2) v (by simpa [Ck.cells] using hj)
                        rw [show off + k * 34 + 2 + j = off + k * 34 + (j + 2) by omega]; exact this
                      have ht := hrow.there hlt
                      have hfold := fold32 c.off c.len c.hs hc
                      have hst := fun W => store_ck g k c hc W
                      have hu := Ybaf.underlying22
                      have hi22 : (Ybaf.prog.info? 22).map (·.size) = some (c.hs.map cell).length := by rw [List.length_map, hc]; kernel_rfl
                      have hl22 : (c.hs.map cell).length = 32 := by rw [List.length_map, hc]
                      have hl32 : c.cells.length = 34 := Ck.len34 c hc
                      have ho22 : ∀ v ∈ c.hs.map cell, v.oneCell' = true := fun v hv => by simp at hv; obtain ⟨u, _, rfl⟩ := hv; rfl
                      have b0 : (0 : Int) ≤ (k : Int) := by omega
                      have b1 : (k : Int) < (n : Int) := by omega
                      have e3 : (Ck.mk c.off c.len c.hs).cells = c.cells := rfl
                      rw [e3] at hfold
                      have hrow' : RowB w.heap.size g n wr.drew := hrow
                      have hrl' : ∀ j (h : j < l.length), wr.drew.rangeAt g (j * 34) l[j].cells := fun j h => (World.rangeAt_drew _ _ _ _).2 (hrl j h)
                      have HFP := hide (hlk ▸ fill_put h32 hrow' hrl' c hc (by omega) : FillB w.heap.size (wr.drew.setCells g (k * 34) c.cells) (some ⟨g, 0, none⟩) n (l ++ [c]))
                      have HMP := hide (ManB.cells (W := wr.drew) hM hrow.1 (k * 34) c.cells)
                      have HBP := hide (setCells_below g (by have := hrow.1; omega) c.cells (k * 34) wr.drew hbel.drew)
                      clear hrow' hrl'
                      have hbg : b ≠ g := by have := hrow.1; omega
                      have k0 : (wr.drew.setCells g (k * 34) c.cells).cell? ⟨b, off + k * 34, none⟩ = some (.int .i64 c.off) := (World.cell?_of_block (w := wr.drew) (setCells_other g c.cells _ wr.drew b hbg)).trans f0
                      have k1 : (wr.drew.setCells g (k * 34) c.cells).cell? ⟨b, off + k * 34 + 1, none⟩ = some (.int .i64 c.len) := (World.cell?_of_block (w := wr.drew) (setCells_other g c.cells _ wr.drew b hbg)).trans f1
                      have k2 : (wr.drew.setCells g (k * 34) c.cells).rangeAt b (off + k * 34 + 2) (c.hs.map cell) := fun j v hj => (World.cell?_of_block (w := wr.drew) (setCells_other g c.cells _ wr.drew b hbg)).trans (f2 j v hj)
                      have k3 : (wr.drew.setCells g (k * 34) c.cells).there g (k * 34) 34 := World.there_setCells (w := wr.drew) ((World.there_drew _ _ _ _).2 ht) _ _ _
                      clear hr hr' hi hz0 hz1 hz2 e1 e3 h32 hrow hrl hM
                      go_wp2_with fail
                      go_region_held3 (fun w' => w'.cell? ⟨b, off + k * 34, none⟩ = some (.int .i64 c.off) ∧ w'.cell? ⟨b, off + k * 34 + 1, none⟩ = some (.int .i64 c.len) ∧ w'.rangeAt b (off + k * 34 + 2) (c.hs.map cell) ∧ w'.there g (k * 34) 34) (first | exact ⟨k0, k1, k2, k3⟩ | go_keep | go_keep_ranges) (fail)
                      go_wp2_with fail
                      go_roundw
                      case rel => exact ⟨k + 1, l ++ [c], by omega, by go_num, by simp; omega, HFP.out, HMP.out, HBP.out⟩
                      case measure => simp [intOf]; omega
                    · have hm1 := hM.cell 1
                      have hm2 := hM.cell 2
                      have hm3 := hM.free 1
                      have hm4 := hM.free 2
                      simp only [List.getElem?_toArray, List.getElem?_cons_zero, List.getElem?_cons_succ] at hm1 hm2
                      have HR := hide (show S3 w a1 n id1 comp hv ((wr.setCell ⟨w.heap.size + 1, 1, none⟩ (.int .i64 size)).setCell ⟨w.heap.size + 1, 2, none⟩ (.int .i64 cs)) from S3_end hF hM hbel (by omega) wsize wcs0)
                      clear hF hM
                      go_wp2_with fail
                      go_meet
                      case rel => exact HR.out
              · rcases bool_or (sm.tmod 3 == 1) with e2 | e2
                · go_wp2_with fail
                  go_loopw [31, 32] (fun o i W => ∃ (k : Nat) (x : Int) (l : List Ck), k ≤ n ∧ i = .int .i64 k ∧ o = .int .i64 x ∧ Hid ((Lit.int .i64 x).wf = true) ∧ l.length = k ∧ FillB w.heap.size W a1 n l ∧ ManB w.heap.size W id1 0 0 (.slice none 0 0) comp hv ∧ Below w.heap.size w W) (fun _ i _ => n - (intOf i).toNat)
                  case atStart =>
                    refine ⟨0, 0, [], by omega, rfl, rfl, by show _ = _; decide, rfl, ⟨by simp, ?_⟩, hM, hbel⟩
                    rcases hrow with ⟨_, h, h'⟩ | ⟨g, _, h, h'⟩
                    · exact .inl ⟨h, h'⟩
                    · exact .inr ⟨g, h, h', by simp⟩
                  case round =>
                    as_aux_lemma =>
                      clear hM hbel hrow
                      obtain ⟨k, x, l, hk, rfl, rfl, hx, hlk, hF, hM, hbel⟩ := hrel
                      by_cases hlt : k < n
                      · obtain ⟨h32, ⟨_, h0⟩ | ⟨g, rfl, hrow, hrl⟩⟩ := hF
                        · omega
                        obtain ⟨b, off, rfl, hbw, hrg⟩ := HARG.out (by omega)
                        have hkc : k < cks.length := by have := HCL.out; omega
                        have hc := (HCK.out _ (List.getElem_mem hkc)).1
                        have hr := hrg k hkc
                        generalize cks[k] = c at *
                        clear hrg
                        have hr' : wr.rangeAt b (off + k * 34) c.cells := fun j v hj => (hbel.cell (p := ⟨b, off + k * 34 + j, none⟩) hbw).trans (hr j v hj)
                        have f2 : wr.rangeAt b (off + k * 34 + 2) (c.hs.map cell) := fun j v hj => by
                          have := hr' (j + 2) v (by simpa [Ck.cells] using hj)
                          rw [show off + k * 34 + 2 + j = off + k * 34 + (j + 2) by omega]; exact this
                        have hi22 : (Ybaf.prog.info? 22).map (·.size) = some (c.hs.map cell).length := by rw [List.length_map, hc]; kernel_rfl
                        have hi22' : (Ybaf.prog.info? 22).map (·.size) = some (c.hs.map cell).toArray.size := by rw [List.size_toArray]; exact hi22
                        have hl22 : (c.hs.map cell).toArray.size = 32 := by simp [hc]
                        have ho22 : (c.hs.map cell).toArray.all (·.oneCell') = true := all_oneCell_toArray fun v hv => by simp at hv; obtain ⟨u, _, rfl⟩ := hv; rfl
                        have hK := k_ne cs
                        obtain ⟨h0, tl, hh⟩ : ∃ h0 tl, c.hs = h0 :: tl := by
                          match c.hs, hc with
                          | h0 :: tl, _ => exact ⟨h0, tl, rfl⟩
                        have hc0 : (wr.alloc (.cells (c.hs.map cell).toArray 22)).cell? ⟨wr.heap.size, 0, none⟩ = some (.int .u8 h0.toNat) := by simp [hh, cell]
                        rw [hh] at hc
                        obtain ⟨hset, hr1, hi1, hl2, hfold, hlen, hst, hfin⟩ := mode1 h0 tl (by simpa using hc) h32 hlk hlt hrow hrl hM hbel
                        rw [← hh] at hset
                        have hgw : g < wr.heap.size := hrow.lt
                        clear hr hr' hi hz0 hz1 hz2 e1 e2 hh hrow hrl h32 hM hbel hc
                        generalize c.hs.map cell = CH at *
                        generalize ((h0 ||| 1) :: tl).map cell = CH2 at *
                        generalize ((h0 ||| 1) :: tl) = hs1 at *
                        go_wp2_with (first | (refine at_op (.load 22 (.tmp 175)) rfl ?_; refine wpList_load_mid rfl 22 _ rfl b (off + k * 34 + 2) rfl _ _ f2 Ybaf.underlying22 rfl hi22 ?_) | (refine at_op (.store 22 _ _) rfl ?_; refine wpList_store_new rfl 22 _ _ rfl wr _ _ rfl rfl hi22' rfl (by rw [hl22]; rfl) ho22 ?_) | (refine at_op (.load 22 (.tmp 34)) rfl ?_; refine wpList_load_mid rfl 22 _ rfl wr.heap.size 0 rfl _ _ hr1 Ybaf.underlying22 rfl hi1 ?_))
                        all_goals
                          go_roundw
                          case rel => exact ⟨k + 1, _, _, by omega, by go_num, rfl, wrap64_wf _, by simp; omega, hfin.out _ _⟩
                          case measure => simp [intOf]; omega
                      · have hm1 := hM.cell 1
                        have hm2 := hM.cell 2
                        have hm3 := hM.free 1
                        have hm4 := hM.free 2
                        simp only [List.getElem?_toArray, List.getElem?_cons_zero, List.getElem?_cons_succ] at hm1 hm2
                        have HR := hide (show S3 w a1 n id1 comp hv ((wr.setCell ⟨w.heap.size + 1, 1, none⟩ (.int .i64 x)).setCell ⟨w.heap.size + 1, 2, none⟩ (.int .i64 (wrap64 (1 + wrap64 ((IntKind.u64.wrap cs).tmod 1000))))) from S3_end hF hM hbel (by omega) hx.out (wrap64_wf _))
                        clear hF hM
                        go_wp2_with fail
                        go_meet
                        case rel => exact HR.out
                · --M2
                  go_wp2_with fail
                  go_loopw [35, 36] (fun o i W => ∃ (k : Nat) (x : Int) (l : List Ck), k ≤ n ∧ i = .int .i64 k ∧ o = .int .i64 x ∧ Hid ((Lit.int .i64 x).wf = true) ∧ l.length = k ∧ FillB w.heap.size W a1 n l ∧ ManB w.heap.size W id1 0 0 (.slice none 0 0) comp hv ∧ Below w.heap.size w W) (fun _ i _ => n - (intOf i).toNat)
                  case atStart =>
                    refine ⟨0, 0, [], by omega, rfl, rfl, by show _ = _; decide, rfl, ⟨by simp, ?_⟩, hM, hbel⟩
                    rcases hrow with ⟨_, h, h'⟩ | ⟨g, _, h, h'⟩
                    · exact .inl ⟨h, h'⟩
                    · exact .inr ⟨g, h, h', by simp⟩
                  case round =>
                    as_aux_lemma =>
                      clear hM hbel hrow
                      obtain ⟨k, x, l, hk, rfl, rfl, hx, hlk, hF, hM, hbel⟩ := hrel
                      by_cases hlt : k < n
                      · obtain ⟨h32, ⟨_, h0⟩ | ⟨g, rfl, hrow, hrl⟩⟩ := hF
                        · omega
                        obtain ⟨b, off, rfl, hbw, hrg⟩ := HARG.out (by omega)
                        have hkc : k < cks.length := by have := HCL.out; omega
                        have hc := (HCK.out _ (List.getElem_mem hkc)).1
                        have hr := hrg k hkc
                        generalize cks[k] = c at *
                        clear hrg
                        have hr' : wr.rangeAt b (off + k * 34) c.cells := fun j v hj => (hbel.cell (p := ⟨b, off + k * 34 + j, none⟩) hbw).trans (hr j v hj)
                        have f2 : wr.rangeAt b (off + k * 34 + 2) (c.hs.map cell) := fun j v hj => by
                          have := hr' (j + 2) v (by simpa [Ck.cells] using hj)
                          rw [show off + k * 34 + 2 + j = off + k * 34 + (j + 2) by omega]; exact this
                        have hi22 : (Ybaf.prog.info? 22).map (·.size) = some (c.hs.map cell).length := by rw [List.length_map, hc]; kernel_rfl
                        have hi22' : (Ybaf.prog.info? 22).map (·.size) = some (c.hs.map cell).toArray.size := by rw [List.size_toArray]; exact hi22
                        have hl22 : (c.hs.map cell).toArray.size = 32 := by simp [hc]
                        have ho22 : (c.hs.map cell).toArray.all (·.oneCell') = true := all_oneCell_toArray fun v hv => by simp at hv; obtain ⟨u, _, rfl⟩ := hv; rfl
                        have f1 : wr.cell? ⟨b, off + k * 34 + 1, none⟩ = some (.int .i64 c.len) := hr' 1 _ rfl
                        obtain ⟨h0, tl, hh⟩ : ∃ h0 tl, c.hs = h0 :: tl := by
                          match c.hs, hc with
                          | h0 :: tl, _ => exact ⟨h0, tl, rfl⟩
                        have hc0 : (wr.alloc (.cells (c.hs.map cell).toArray 22)).cell? ⟨wr.heap.size, 0, none⟩ = some (.int .u8 h0.toNat) := by simp [hh, cell]
                        rw [hh] at hc
                        obtain ⟨hset, hr1, hi1, hl2, hfold, hlen, hst, hfin⟩ := mode1 h0 tl (by simpa using hc) h32 hlk hlt hrow hrl hM hbel
                        rw [← hh] at hset
                        have hgw : g < wr.heap.size := hrow.lt
                        clear hr hr' hi hz0 hz1 hz2 e1 e2 hh hrow hrl h32 hM hbel hc
                        generalize c.hs.map cell = CH at *
                        generalize ((h0 ||| 1) :: tl).map cell = CH2 at *
                        generalize ((h0 ||| 1) :: tl) = hs1 at *
                        go_wp2_with (first | (refine at_op (.load 22 (.tmp 98)) rfl ?_; refine wpList_load_mid rfl 22 _ rfl b (off + k * 34 + 2) rfl _ _ f2 Ybaf.underlying22 rfl hi22 ?_) | (refine at_op (.store 22 _ _) rfl ?_; refine wpList_store_new rfl 22 _ _ rfl wr _ _ rfl rfl hi22' rfl (by rw [hl22]; rfl) ho22 ?_) | (refine at_op (.load 22 (.tmp 38)) rfl ?_; refine wpList_load_mid rfl 22 _ rfl wr.heap.size 0 rfl _ _ hr1 Ybaf.underlying22 rfl hi1 ?_))
                        all_goals
                          go_roundw
                          case rel => exact ⟨k + 1, _, _, by omega, by go_num, rfl, wrap64_wf _, by simp; omega, hfin.out _ _⟩
                          case measure => simp [intOf]; omega
                      · have hm1 := hM.cell 1
                        have hm2 := hM.cell 2
                        have hm3 := hM.free 1
                        have hm4 := hM.free 2
                        simp only [List.getElem?_toArray, List.getElem?_cons_zero, List.getElem?_cons_succ] at hm1 hm2
                        have HR := hide (show S3 w a1 n id1 comp hv ((wr.setCell ⟨w.heap.size + 1, 1, none⟩ (.int .i64 x)).setCell ⟨w.heap.size + 1, 2, none⟩ (.int .i64 0)) from S3_end hF hM hbel (by omega) hx.out (by decide))
                        clear hF hM
                        go_wp2_with fail
                        go_meet
                        case rel => exact HR.out
          case rest =>
            as_aux_lemma =>
              obtain ⟨sz, cs1, l, wsz, wcs, hM, hC, hbel⟩ := hcut
              clear hrow HCL HCK HARG
              have HT := hide (T1_of hM hC hbel)
              have hm3 := hM.cell 3
              have hm4 := hM.free 3
              simp only [List.getElem?_toArray, List.getElem?_cons_zero, List.getElem?_cons_succ] at hm3
              have hlt2 : w.heap.size + 2 ≤ wc.heap.size := hM.lt
              clear hM hC hbel
              go_wp2_with (at_make; refine wpList_make_full _ rfl _ _ _ rfl (w.heap.size + 2) 32 i0 _ 34 Ybaf.underlying24 hi hz0 hz1 _ _ _ _ n rfl rfl (by rfl) (by rfl) (by rw [hz2]; omega) (by unfold maxLen; omega) (by simp; omega) ?_)
              intro w2 hown hgrow
              have HT2 := hide (HT.out.make hown hgrow)
              clear hown hgrow HT hm3 hm4 hi hz0 hz1 hz2
              go_wp2_with (refine at_op (.call { callee := .builtin .copy, args := #[.tmp 200, .tmp 201], argTypes := #[24, 24] }) rfl ?_; refine wpList_copy_ck rfl _ _ rfl rfl rfl HT2.out.row HT2.out.cks ?_)
              intro w3 hr3 hb3
              have HT3 := hide (HT2.out.copy hr3 hb3)
              clear hr3 hb3 HT2
              obtain ⟨f0, f1, f2, f3, f4, f5⟩ := HT3.out.cells
              go_wp2_with fail
              go_quiet (fail)
              go_upto_region 54 with fail
              go_cut [45] (fun s W => s = .bool (validB id1 sz cs1 l && (id1.toList == wid.toList)) ∧ T3 w W wc.heap.size a1 n id1 sz cs1 comp hv l)
              case first =>
                as_aux_lemma =>
                  go_wp2_with fail
                  refine (HT3.out.valid _ hid1 hn).mono ?_
                  rintro e w4 ⟨rfl, hT4⟩
                  have HT4 := hide hT4
                  have f0' := hT4.man.cell 0
                  simp only [List.getElem?_toArray, List.getElem?_cons_zero] at f0'
                  clear hT4 f0 f1 f2 f3 f4 f5
                  generalize validB id1 sz cs1 l = vb at *
                  cases vb
                  · go_wp2_with fail
                    go_meet
                    case rel => exact ⟨rfl, HT4.out⟩
                  · go_wp2_with fail
                    go_meet
                    case rel => exact ⟨rfl, HT4.out⟩
              case rest =>
                as_aux_lemma =>
                  obtain ⟨rfl, hT4⟩ := hcut
                  have HT4 := hide hT4
                  clear hT4 HT3 f0 f1 f2 f3 f4 f5
                  have HT5 := hide (HT4.out.below ((Below.refl _ wc).alloc (Nat.le_refl _) (.cells #[.string addr, .pointer none, .nilFunc, .pointer none] 42)))
                  have HCK : ∀ vb, Hid ((validB id1 sz cs1 l && (id1.toList == wid.toList)) = vb → Calls Ybaf.prog 6 #[.pointer (some ⟨wc.heap.size, 0, none⟩), .pointer (some ⟨w.heap.size + 1, 0, none⟩), .string wid] (wc.alloc (.cells #[.string addr, .pointer none, .nilFunc, .pointer none] 42)) fun e w1 => ((vb = true ∧ e = .returned .nilIface) ∨ (vb = false ∧ ∃ u x, e = .returned (.iface u x))) ∧ Below (wc.alloc (.cells #[.string addr, .pointer none, .nilFunc, .pointer none] 42)).heap.size (wc.alloc (.cells #[.string addr, .pointer none, .nilFunc, .pointer none] 42)) w1) := fun vb hvb => HT5.out.check hid1 hn wsz wcs wc.heap.size addr wid (by simp) (by simp) vb hvb
                  have HCK1 := HCK (validB id1 sz cs1 l && (id1.toList == wid.toList))
                  have HCK2 := hide (HCK1.out rfl)
                  clear HCK HCK1 HT4
                  generalize (validB id1 sz cs1 l && (id1.toList == wid.toList)) = vb at *
                  have hi44 : Ybaf.prog.isIface 44 = true := by kernel_rfl
                  have hn39 := neq39
                  have hn24 := fun W => eql24 a1 n n W
                  go_wp2_with fail
                  refine HCK2.out.mono ?_
                  rintro e w5 ⟨hcase, hb⟩
                  have HT6 := hide (HT5.out.below hb)
                  have g0 := keep0 (i := 0) (v := .string addr) hb (by simp)
                  have g1 := keep0 (i := 1) (v := .pointer none) hb (by simp)
                  have g2 := keep0 (i := 2) (v := .nilFunc) hb (by simp)
                  have g3 := keep0 (i := 3) (v := .pointer none) hb (by simp)
                  obtain ⟨f0, f1, f2, f3, f4, f5⟩ := HT6.out.cells
                  clear HCK2 HT5 hb
                  rcases hcase with ⟨rfl, rfl⟩ | ⟨rfl, u, x, rfl⟩
                  all_goals
                    go_wp2_with fail
                    go_loopw [48] (fun i W => ∃ k : Nat, k ≤ n ∧ i = .int .i64 k ∧ ∃ q, W = w5.drewN q) (fun i _ => n - (intOf i).toNat)
                    case atStart => exact ⟨0, by omega, rfl, 0, rfl⟩
                    case round =>
                      as_aux_lemma =>
                        obtain ⟨k, hk, rfl, q, rfl⟩ := hrel
                        by_cases hlt : k < n
                        · have hkl : k < l.length := by have := HT6.out.cks.1; omega
                          obtain ⟨g, rfl, hr1⟩ := HT6.out.cks.range hlt hkl
                          obtain ⟨g', hg', hr2⟩ := HT6.out.sav.range hlt hkl
                          simp only [Option.some.injEq, Addr.mk.injEq, and_true] at hg'
                          subst hg'
                          have hr1' := rangeAt_drewN hr1 q
                          have hr2' := rangeAt_drewN hr2 q
                          have h32 := HT6.out.cks.2.1 _ (List.getElem_mem hkl)
                          have hz : (Ybaf.prog.info? 32).map (·.size) = some l[k].cells.length := by rw [Ck.len34 _ h32]; exact Ybaf.size32
                          have heq := fun W => eq_ck l[k] h32 W
                          have HB6 := hide HT6.out.bel
                          clear hr1 hr2 HT6 h32
                          generalize l[k].cells = CL at *
                          go_wp2_with fail
                          refine wp_region_quiet_lit (by kernel_rfl) (by kernel_rfl) ?_
                          repeat (first | (refine at_quiet (.load 32 (.tmp 308)) rfl ?_; refine wpQuiet_load_mid 32 _ rfl rfl g (k * 34) rfl CL _ hr1' Ybaf.underlying32 rfl hz ?_; simp only [Act.put, List.setIfInBounds_toArray, List.set_cons_zero, List.set_cons_succ]) | (refine at_quiet (.load 32 (.tmp 312)) rfl ?_; refine wpQuiet_load_mid 32 _ rfl rfl _ (k * 34) rfl CL _ hr2' Ybaf.underlying32 rfl hz ?_; simp only [Act.put, List.setIfInBounds_toArray, List.set_cons_zero, List.set_cons_succ]) | go_big_quiet_step (fail))
                          refine wpQuiet_nil ?_
                          intro _ hw'
                          obtain ⟨nq, hw''⟩ := hw'
                          subst hw''
                          go_wp2_with fail
                          go_roundw
                          case rel => exact ⟨k + 1, by omega, by go_num, q + nq, by simp⟩
                          case measure => simp [intOf]; omega
                        · have HB6 := hide HT6.out.bel
                          clear HT6
                          go_wp2_with fail
                          go_ret
                          exact ⟨rfl, below_drewN HB6.out _⟩
end Go.Proofs.YbulkedksFmt
