import Derived.Test.YbulkedlgDoorGr
import Derived.BigQuiet
import Derived.BigRegion
import Derived.Deep.DeepCutAuto
import Derived.Deep.CutBlock
namespace Go.Proofs.YbulkedlgDoor
open Go.RowKit
set_option linter.unusedVariables false

theorem and63 : ∀ k : Fin 64, bits BinOp.and IntKind.i64 (k.val : Int) 63 = (k.val : Int) := by decide +kernel
theorem and15 : ∀ k : Fin 64, bits BinOp.and IntKind.i64 (k.val : Int) 15 = ((k.val % 16 : Nat) : Int) := by decide +kernel
theorem or16 : ∀ a s : Fin 16, bits BinOp.or IntKind.i64 ((a.val * 16 : Nat) : Int) (s.val : Int) = ((a.val * 16 + s.val : Nat) : Int) := by decide +kernel
theorem and15_any (x : Int) : bits BinOp.and IntKind.i64 x 15 = x % 16 := by
  have e1 : (BitVec.ofInt 64 (15 : Int)).toNat = 15 := by decide
  show IntKind.i64.wrap ((BitVec.ofInt 64 x &&& BitVec.ofInt 64 15).toNat : Int) = _
  rw [BitVec.toNat_and, e1, BitVec.toNat_ofInt, show (15 : Nat) = 2 ^ 4 - 1 from rfl, Nat.and_two_pow_sub_one_eq_mod]
  have e2 : (((x % ((2 ^ 64 : Nat) : Int)).toNat % 2 ^ 4 : Nat) : Int) = x % 16 := by omega
  rw [e2]
  simp [IntKind.wrap, IntKind.signed, IntKind.bits]
  omega
theorem Kp.drewN {pb : Nat} {a W : World} (h : Kp pb a W) (n : Nat) : Kp pb a (W.drewN n) := ⟨h.os, h.tape, h.output, h.size, h.block⟩

/-- What countFirsts reads beside the graph. -/
structure Ev (W : World) (L A pb gl : Nat) (I : Inp) : Prop where
  al : W.cell? ⟨L, 0, none⟩ = some (.int .i64 I.al)
  st : W.cell? ⟨L, 3, none⟩ = some (.slice (some ⟨gl, 0, none⟩) I.n I.n)
  sz : ∀ q, q < 64 → W.cell? ⟨A, 9 + q, none⟩ = some (.int .u8 (I.sz q))
  tab : TabAt W
  lne : L ≠ pb
  ane : A ≠ pb
  zne : 0 ≠ pb
theorem Ev.later {W W' : World} {L A pb gl : Nat} {I : Inp} (h : Ev W L A pb gl I) (hk : Kp pb W W') : Ev W' L A pb gl I :=
  ⟨hk.cell h.al h.lne, hk.cell h.st h.lne, fun q hq => hk.cell (h.sz q hq) h.ane, fun j hj => hk.cell (h.tab j hj) h.zne, h.lne, h.ane, h.zne⟩

set_option maxRecDepth 100000 in
set_option maxHeartbeats 4000000 in
theorem count_any (W : World) (L A pb gl : Nat) (I : Inp) (gb : Nat → Nat) (gc : Nat → Nat → Nat) (c : Nat) (v : Nat → Int) (hI : I.ok c) (hE : Ev W L A pb gl I) (hG : Gr W pb gl I gb gc) (hP : PoolAt W pb v) :
    Calls Ybad.prog 5 #[.pointer (some ⟨L, 0, none⟩), .pointer (some ⟨A, 0, none⟩), .int .u64 c] W fun e W' => e = .returned (.tuple #[]) ∧ PoolAt W' pb (startsTo I I.n v) ∧ Kp pb W W' := by
  have hst := hE.st
  have hnb := hI.nb
  have HI := hide hI
  have HE := hide hE
  have HG := hide hG
  have HP := hide hP
  clear hI hE hG hP
  obtain ⟨n, hn⟩ : ∃ n, I.n = n := ⟨_, rfl⟩
  have HN := hide hn
  rw [hn] at hst hnb
  clear hn
  go_enter Ybad.func5, Ybad.ntmps5
  go_wp2_with fail
  go_loopw [21] (fun x W' => ∃ i : Nat, i ≤ n ∧ x = .int .i64 i ∧ PoolAt W' pb (startsTo I i v) ∧ Kp pb W W') (fun x _ => n - (intOf x).toNat)
  case atStart => exact ⟨0, by omega, rfl, HP.out, Kp.refl _ _⟩
  case round =>
    clear HP hst
    obtain ⟨i, hi, rfl, hP, hK⟩ := hrel
    by_cases hlt : i < n
    · have hiI : i < I.n := by have := HN.out; omega
      have hE := HE.out.later hK
      have hG := HG.out.later hK
      have g1 := hG.one i hiI
      have g2 := hG.two i hiI
      obtain ⟨f2, f63⟩ := HI.out.f2 i hiI
      have hmb := HI.out.mb i hiI
      have hc64 := HI.out.c64
      have HS := hide (hG.st i hiI)
      have HE' := hide hE
      have HP := hide hP
      have HK := hide hK
      clear hE hG hP hK HG HE
      obtain ⟨f, hf⟩ : ∃ f, I.f i = f := ⟨_, rfl⟩
      obtain ⟨m, hm⟩ : ∃ m, I.m i = m := ⟨_, rfl⟩
      obtain ⟨GB, hgb⟩ : ∃ g, gb i = g := ⟨_, rfl⟩
      rw [hf, hm, hgb] at HS
      rw [hf] at g1 f2 f63
      rw [hm, hgb] at g2
      rw [hm] at hmb
      have HF := hide hf
      have HM := hide hm
      clear hf hm hgb
      obtain ⟨lw, hlw⟩ : ∃ lw : Nat, 2 ^ f - 1 = lw := ⟨_, rfl⟩
      have H6 := hide (fun w => lowBits_any f w (by omega))
      rw [hlw] at H6
      have hlw64 : lw < 18446744073709551616 := by
        have : 2 ^ f < 2 ^ 64 := Nat.pow_lt_pow_right (by omega) (by omega)
        omega
      cases hk : I.K i with
      | none =>
        have hno := HI.out.kNone i hiI hk
        rw [HF.out] at hno
        have hz : bits BinOp.andNot IntKind.u64 (c : Int) (lw : Int) = 0 := by
          rw [bits_andNot_u64_nat c lw hc64 hlw64, ← hlw, rest_none c f hc64 (by omega) hno]; rfl
        have HST : Hid (startsTo I (i + 1) v = startsTo I i v) := by
          show _ = _
          rw [startsTo, stepS, hk]
        clear hno hk hlw
        go_wp2_with fail
        refine (H6.out _).mono ?_
        rintro e w' ⟨rfl, rfl⟩
        go_wp2_with fail
        go_roundw
        case rel => exact ⟨i + 1, by omega, by go_num, by rw [HST.out]; exact HP.out.of_block (Below.heap_alloc _ _ _ HP.out.lt), HK.out.alloc _⟩
        case measure => simp [intOf]; omega
      | some k =>
        have hisk := HI.out.kSome i k hiI hk
        have hisb := HI.out.isB i hiI
        rw [HF.out] at hisk hisb
        obtain ⟨b, hb⟩ : ∃ b, I.Bf i = b := ⟨_, rfl⟩
        rw [hb] at hisb
        obtain ⟨hRne, hRlt, hctz⟩ := rest_some c f k hc64 hisk
        obtain ⟨hMlt, hbl⟩ := lead c f b (by omega) hisb
        have hkb : b < f ∧ f ≤ k ∧ k < 64 := ⟨hisb.1, hisk.1, hisk.2.1⟩
        obtain ⟨hkb1, hkb2, hkb3⟩ := hkb
        rw [hlw] at hRne hRlt hctz hMlt hbl
        have hR := bits_andNot_u64_nat c lw hc64 hlw64
        have hM1 := bits_and_u64_nat c lw hc64 hlw64
        have hcl : c &&& lw < 18446744073709551616 := Nat.lt_of_le_of_lt Nat.and_le_left hc64
        have hM2 : bits BinOp.or IntKind.u64 ((c &&& lw : Nat) : Int) 1 = (((c &&& lw) ||| 1 : Nat) : Int) := bits_or_u64_nat (c &&& lw) 1 hcl (by omega)
        have H7 := hide (fun w hT => tz64_any (c &&& (18446744073709551615 - lw)) hRlt hRne w hT)
        have H8 := hide (fun w => lz64_any (((c &&& lw) ||| 1 : Nat) : Int) w (by omega) (by omega))
        rw [hctz] at H7
        rw [Int.toNat_natCast, hbl] at H8
        have HBq := hide hb
        have HKK := hide hk
        have hRn0 : ((c &&& (18446744073709551615 - lw) : Nat) : Int) ≠ 0 := by omega
        generalize (c &&& (18446744073709551615 - lw)) = R at *
        generalize ((c &&& lw) ||| 1) = M at *
        generalize (c &&& lw) = M1 at *
        have HT := hide HE'.out.tab
        clear hisk hisb hb hk hRne hRlt hctz hMlt hbl hlw hlw64 hcl
        go_wp2_with fail
        refine (H6.out _).mono ?_
        rintro e w' ⟨rfl, rfl⟩
        go_wp2_with fail
        have hT1 : TabAt (wr.alloc (Obj.cells #[Value.int IntKind.i64 ↑f, Value.slice (some ⟨GB, 0, none⟩) m m] 43)) := fun q hq => by
          have := HT.out q hq
          rw [World.cell?_of_block (w := wr) (Below.heap_alloc _ _ _ (World.block_lt_of_cell? _ _ this))]; exact this
        refine (H7.out _ hT1).mono ?_
        rintro e w' ⟨rfl, rfl⟩
        clear hT1
        go_wp2_with fail
        refine (H6.out _).mono ?_
        rintro e w' ⟨rfl, rfl⟩
        go_wp2_with fail
        refine (H8.out _).mono ?_
        rintro e w' ⟨rfl, rfl⟩
        go_wp2_with fail
        rw [show (63 : Int) - (64 - ((b : Int) + 1)) = (b : Int) by omega]
        have hKW : Kp pb W (wr.alloc (Obj.cells #[Value.int IntKind.i64 ↑f, Value.slice (some ⟨GB, 0, none⟩) m m] 43)) := HK.out.alloc _
        have hK1 : Kp pb wr (wr.alloc (Obj.cells #[Value.int IntKind.i64 ↑f, Value.slice (some ⟨GB, 0, none⟩) m m] 43)) := (Kp.refl pb wr).alloc _
        have hP1 : PoolAt (wr.alloc (Obj.cells #[Value.int IntKind.i64 ↑f, Value.slice (some ⟨GB, 0, none⟩) m m] 43)) pb (startsTo I i v) := HP.out.of_block (Below.heap_alloc _ _ _ HP.out.lt)
        have a0 : (wr.alloc (Obj.cells #[Value.int IntKind.i64 ↑f, Value.slice (some ⟨GB, 0, none⟩) m m] 43)).cell? ⟨wr.heap.size, 0, none⟩ = some (.int .i64 f) := by rw [cell_of_row _ _ _ _ _ _ (heap_alloc_new wr _)]; rfl
        have a1 : (wr.alloc (Obj.cells #[Value.int IntKind.i64 ↑f, Value.slice (some ⟨GB, 0, none⟩) m m] 43)).cell? ⟨wr.heap.size, 1, none⟩ = some (.slice (some ⟨GB, 0, none⟩) m m) := by rw [cell_of_row _ _ _ _ _ _ (heap_alloc_new wr _)]; rfl
        have hTne : wr.heap.size ≠ pb := by have := HP.out.lt; omega
        have HEV := hide (HE'.out.later hK1)
        have HST := hide (HS.out.later hK1)
        have HKW := hide hKW
        have HP1 := hide hP1
        have HTN := hide hTne
        clear hKW hK1 hP1 hTne HP HK HE' HS HT H6 H7 H8 hR hM1 hM2 hRn0 g1 g2
        generalize wr.alloc (Obj.cells #[Value.int IntKind.i64 ↑f, Value.slice (some ⟨GB, 0, none⟩) m m] 43) = W1 at *
        generalize wr.heap.size = T1 at *
        go_quiet (fail)
        have hk2 := (Kp.refl pb W1).drewN nq
        have HEV2 := hide (HEV.out.later hk2)
        have HST2 := hide (HST.out.later hk2)
        have HKW2 := hide (HKW.out.trans hk2)
        have HP2 := hide (HP1.out.of_block (W' := W1.drewN nq) rfl)
        have a02 : (W1.drewN nq).cell? ⟨T1, 0, none⟩ = some (.int .i64 f) := hk2.cell a0 HTN.out
        have a12 : (W1.drewN nq).cell? ⟨T1, 1, none⟩ = some (.slice (some ⟨GB, 0, none⟩) m m) := hk2.cell a1 HTN.out
        clear HEV HST HKW HP1 a0 a1 hk2
        generalize W1.drewN nq = W2 at *
        obtain ⟨ct, hct⟩ : ∃ ct : Nat, k - b - 1 = ct := ⟨_, rfl⟩
        obtain ⟨rn, hrn⟩ : ∃ rn : Nat, k - f = rn := ⟨_, rfl⟩
        rw [show (k : Int) - (b : Int) - 1 = (ct : Int) by omega, show (k : Int) - (f : Int) = (rn : Int) by omega]
        have hct64 : ct < 64 := by omega
        have hrn64 : rn < 64 := by omega
        have HCT := hide hct
        have HRN := hide hrn
        clear hct hrn
        by_cases ecr : ct = rn
        · subst ecr
          have HSS : Hid (startsTo I (i + 1) v = startsTo I i v) := by
            show _ = _
            rw [startsTo, stepS, HKK.out]
            simp only
            rw [HBq.out, HF.out, HCT.out, HRN.out, if_pos rfl]
          go_wp2_with fail
          go_roundw
          case rel => exact ⟨i + 1, by omega, by go_num, by rw [HSS.out]; exact HP2.out, HKW2.out⟩
          case measure => simp [intOf]; omega
        · have hk63 : bits BinOp.and IntKind.i64 (k : Int) 63 = (k : Int) := and63 ⟨k, hkb3⟩
          have z0 := HEV2.out.al
          have z1 := HEV2.out.sz k hkb3
          obtain ⟨zb0, zb1⟩ := HI.out.sz8 k hkb3
          go_wp2_with fail
          go_quiet (fail)
          have hk3 := (Kp.refl pb W2).drewN nq
          have HST3 := hide (HST2.out.later hk3)
          have HKW3 := hide (HKW2.out.trans hk3)
          have HP3 := hide (HP2.out.of_block (W' := W2.drewN nq) rfl)
          have a13 : (W2.drewN nq).cell? ⟨T1, 1, none⟩ = some (.slice (some ⟨GB, 0, none⟩) m m) := hk3.cell a12 HTN.out
          have hss : bits BinOp.and IntKind.i64 (wrap64 (I.sz k - I.al)) 15 = ((sOf I k : Nat) : Int) := by
            rw [and15_any]; unfold wrap64 sOf; omega
          have hs16 := sOf_lt I k
          have HVI := hide (rfl : startsTo I i v = startsTo I i v)
          clear HST2 HKW2 HP2 a12 a02 hk3 HEV2 z0 z1 zb0 zb1 hk63
          generalize W2.drewN nq = W3 at *
          generalize wrap64 (I.sz k - I.al) = S at *
          obtain ⟨s, hs⟩ : ∃ s, sOf I k = s := ⟨_, rfl⟩
          rw [hs] at hss hs16
          have HSO := hide hs
          clear hs HVI
          have h15a : bits BinOp.and IntKind.i64 (ct : Int) 15 = ((ct % 16 : Nat) : Int) := and15 ⟨ct, hct64⟩
          have h15b : bits BinOp.and IntKind.i64 (rn : Int) 15 = ((rn % 16 : Nat) : Int) := and15 ⟨rn, hrn64⟩
          obtain ⟨x1, hx1⟩ : ∃ x, ct % 16 * 16 + s = x := ⟨_, rfl⟩
          obtain ⟨x2, hx2⟩ : ∃ x, rn % 16 * 16 + s = x := ⟨_, rfl⟩
          have ho1 : bits BinOp.or IntKind.i64 ((ct : Int) % 16 * 16) (s : Int) = (x1 : Int) := by
            have := or16 ⟨ct % 16, by omega⟩ ⟨s, hs16⟩
            rw [← hx1]; simpa using this
          have ho2 : bits BinOp.or IntKind.i64 ((rn : Int) % 16 * 16) (s : Int) = (x2 : Int) := by
            have := or16 ⟨rn % 16, by omega⟩ ⟨s, hs16⟩
            rw [← hx2]; simpa using this
          have hx1b : x1 < 256 := by omega
          have hx2b : x2 < 256 := by omega
          have HX1 := hide hx1
          have HX2 := hide hx2
          clear hx1 hx2
          go_wp2_with fail
          go_loopw [69] (fun x W' => ∃ j : Nat, j ≤ m ∧ x = .int .i64 j ∧ PoolAt W' pb (bandsTo I i k ct rn j (startsTo I i v)) ∧ Kp pb W3 W') (fun x _ => m - (intOf x).toNat)
          case atStart => exact ⟨0, by omega, rfl, HP3.out, Kp.refl _ _⟩
          case round =>
            clear HP3 a13
            obtain ⟨j, hj, rfl, hP, hK⟩ := hrel
            by_cases hltj : j < m
            · have hst := HST3.out.later hK
              have b0 := hst.row j hltj
              have hbl := hst.band j hltj
              have hmI : j < I.m i := by have := HM.out; omega
              have hp3 := HI.out.p3 i j hiI hmI
              obtain ⟨g, hg⟩ : ∃ g, gc i j = g := ⟨_, rfl⟩
              obtain ⟨lt, hlt'⟩ : ∃ l, I.lst i j = l := ⟨_, rfl⟩
              obtain ⟨p, hp⟩ : ∃ p, I.p i j = p := ⟨_, rfl⟩
              have hgne := hst.bne j hltj
              rw [hg] at b0 hbl hgne
              rw [hlt', hp] at hbl
              rw [hp] at hp3
              have c1 : wr.cell? ⟨g, 1, none⟩ = some (.int .i64 lt) := by rw [cell_of_row _ _ _ _ _ _ hbl]; rfl
              have c3 : wr.cell? ⟨g, 3, none⟩ = some (.pointer (some ⟨pb, p * 256, none⟩)) := by rw [cell_of_row _ _ _ _ _ _ hbl]; rfl
              have HLT := hide hlt'
              have HPP := hide hp
              have HP := hide hP
              have HK := hide hK
              have HGN := hide hgne
              clear hst hbl hg hlt' hp hP hK hgne
              by_cases hkl : (k : Int) ≤ lt
              · have HBB : Hid (bandsTo I i k ct rn (j + 1) (startsTo I i v) = stepB s ct rn p (bandsTo I i k ct rn j (startsTo I i v))) := by
                  show _ = _
                  rw [bandsTo, HLT.out, if_pos hkl, HPP.out, HSO.out]
                generalize bandsTo I i k ct rn j (startsTo I i v) = V at *
                have q1 := HP.out.cell (i := p * 256 + x1) (by omega)
                have qf := HP.out.free
                go_wp2_with fail
                go_region
                have HPa := hide ((HP.out.put (p * 256 + x1) ((V (p * 256 + x1) - 1) % 4294967296)).of_block (W' := (wr.setCell ⟨pb, p * 256 + x1, none⟩ (.int .u32 ((V (p * 256 + x1) - 1) % 4294967296))).drew) rfl)
                have hka : Kp pb wr (wr.setCell ⟨pb, p * 256 + x1, none⟩ (.int .u32 ((V (p * 256 + x1) - 1) % 4294967296))).drew := ((Kp.refl pb wr).set _ _).drew
                have c3a := hka.cell c3 HGN.out
                have HKa := hide (HK.out.trans hka)
                clear hka HP HK q1 qf c3 c1 b0
                generalize (wr.setCell ⟨pb, p * 256 + x1, none⟩ (.int .u32 ((V (p * 256 + x1) - 1) % 4294967296))).drew = Wa at *
                obtain ⟨V1, hV1⟩ : ∃ V1, upd V (p * 256 + x1) ((V (p * 256 + x1) - 1) % 4294967296) = V1 := ⟨_, rfl⟩
                rw [hV1] at HPa
                have q1 := HPa.out.cell (i := p * 256 + x2) (by omega)
                have qf := HPa.out.free
                go_wp2_with fail
                go_region
                have HPb := hide ((HPa.out.put (p * 256 + x2) ((V1 (p * 256 + x2) + 1) % 4294967296)).of_block (W' := (Wa.setCell ⟨pb, p * 256 + x2, none⟩ (.int .u32 ((V1 (p * 256 + x2) + 1) % 4294967296))).drew) rfl)
                have hka : Kp pb Wa (Wa.setCell ⟨pb, p * 256 + x2, none⟩ (.int .u32 ((V1 (p * 256 + x2) + 1) % 4294967296))).drew := ((Kp.refl pb Wa).set _ _).drew
                have c3b := hka.cell c3a HGN.out
                have HKb := hide (HKa.out.trans hka)
                clear hka HPa HKa q1 qf c3a
                generalize (Wa.setCell ⟨pb, p * 256 + x2, none⟩ (.int .u32 ((V1 (p * 256 + x2) + 1) % 4294967296))).drew = Wb at *
                obtain ⟨V2, hV2⟩ : ∃ V2, upd V1 (p * 256 + x2) ((V1 (p * 256 + x2) + 1) % 4294967296) = V2 := ⟨_, rfl⟩
                rw [hV2] at HPb
                have q1 := HPb.out.cell (i := p * 256 + 240) (by omega)
                have qf := HPb.out.free
                go_wp2_with fail
                go_region
                have HPc := hide ((HPb.out.put (p * 256 + 240) ((V2 (p * 256 + 240) + ((rn : Int) / 16 - (ct : Int) / 16)) % 4294967296)).of_block (W' := (Wb.setCell ⟨pb, p * 256 + 240, none⟩ (.int .u32 ((V2 (p * 256 + 240) + ((rn : Int) / 16 - (ct : Int) / 16)) % 4294967296))).drew) rfl)
                have hka : Kp pb Wb (Wb.setCell ⟨pb, p * 256 + 240, none⟩ (.int .u32 ((V2 (p * 256 + 240) + ((rn : Int) / 16 - (ct : Int) / 16)) % 4294967296))).drew := ((Kp.refl pb Wb).set _ _).drew
                have HKc := hide (HKb.out.trans hka)
                clear hka HPb HKb q1 qf c3b
                have HSB : Hid (stepB s ct rn p V = upd V2 (p * 256 + 240) ((V2 (p * 256 + 240) + ((rn : Int) / 16 - (ct : Int) / 16)) % 4294967296)) := by
                  show _ = _
                  unfold stepB
                  simp only [HX1.out, HX2.out, hV1, hV2]
                generalize (Wb.setCell ⟨pb, p * 256 + 240, none⟩ (.int .u32 ((V2 (p * 256 + 240) + ((rn : Int) / 16 - (ct : Int) / 16)) % 4294967296))).drew = Wc at *
                go_wp2_with fail
                go_roundw
                case rel => exact ⟨j + 1, by omega, by go_num, by rw [HBB.out, HSB.out]; exact HPc.out, HKc.out⟩
                case measure => simp [intOf]; omega
              · have HBB : Hid (bandsTo I i k ct rn (j + 1) (startsTo I i v) = bandsTo I i k ct rn j (startsTo I i v)) := by
                  show _ = _
                  rw [bandsTo, HLT.out, if_neg hkl]
                go_wp2_with fail
                go_roundw
                case rel => exact ⟨j + 1, by omega, by go_num, by rw [HBB.out]; exact HP.out, HK.out⟩
                case measure => simp [intOf]; omega
            · have : j = m := by omega
              subst this
              have HP := hide hP
              have HK := hide hK
              clear hP hK
              have HSS : Hid (startsTo I (i + 1) v = bandsTo I i k ct rn j (startsTo I i v)) := by
                show _ = _
                rw [startsTo, stepS, HKK.out]
                simp only
                rw [HBq.out, HF.out, HCT.out, HRN.out, if_neg ecr, HM.out]
              go_wp2_with fail
              go_roundw
              case rel => exact ⟨i + 1, by omega, by go_num, by rw [HSS.out]; exact HP.out, HKW3.out.trans HK.out⟩
              case measure => simp [intOf]; omega
    · have : i = n := by omega
      subst this
      have HP := hide hP
      have HK := hide hK
      clear hP hK
      go_wp2_with fail
      go_end0
      exact ⟨rfl, by rw [HN.out]; exact HP.out, HK.out⟩
end Go.Proofs.YbulkedlgDoor
