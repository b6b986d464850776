import Derived.Test.YbulkedomLw2
import Derived.Deep.CutBlock
import Derived.Deep.DeepCutAuto
import Derived.Laws.MakeOwn
import Derived.Carry
import Derived.Deep.RegionHeld3
import Derived.BigQuiet
namespace Go.Proofs.Ybulkedom
open Go.RowKit Go.Maps
set_option linter.unusedVariables false

theorem name_at (x i : Int) (w : World) (h : x = i) (h0 : 0 ≤ i) (h1 : i ≤ 255) : Calls Yba.prog 4 #[.int .u8 x] w fun e w' => e = .returned (.string (nmB i)) ∧ w' = w := by
  subst h; exact name_any x w h0 h1
theorem at_wp_op {P : Program} {o : Oper} {a : Act} {K : Act → World → Prop} {Q : Exit → Act → World → Prop} {w : World} (op : Op) (_ : o.op = op) (k : o.wp P a w K Q) : o.wp P a w K Q := k

set_option maxRecDepth 100000 in
set_option maxHeartbeats 8000000 in
theorem law_x (f : ByteArray) (a1 : Option Addr) (n1 c1 : Nat) (z1 : Nat → Int) (a2 : Option Addr) (n2 c2 : Nat) (z2 : Nat → Int) (x3 : Int) (a4 : Option Addr) (n4 c4 : Nat) (z4 : Nat → Int) (a5 : Option Addr) (n5 c5 : Nat) (y5 : Nat → Int) (w : World)
    (h1 : Ain w .u8 a1 n1 z1) (h2 : Ain w .u8 a2 n2 z2) (h4 : Ain w .u8 a4 n4 z4) (h5 : Ain w .i64 a5 n5 y5) (hz1 : ∀ j, 0 ≤ z1 j ∧ z1 j ≤ 255) (hz2 : ∀ j, 0 ≤ z2 j ∧ z2 j ≤ 255) (hz4 : ∀ j, 0 ≤ z4 j ∧ z4 j ≤ 255) (hx0 : 0 ≤ x3) (hx1 : x3 ≤ 255) (hsum : n1 + n2 + n4 + n5 ≤ 4096) :
    Calls Yba.prog 3 #[.string f, .slice a1 n1 c1, .slice a2 n2 c2, .int .u8 x3, .slice a4 n4 c4, .slice a5 n5 c5] w fun e w' => e = .returned (.bool true) ∧ Below w.heap.size w w' := by
  have H1 := hide h1
  have H2 := hide h2
  have H4 := hide h4
  have H5 := hide h5
  have HZ1 := hide hz1
  have HZ2 := hide hz2
  have HZ4 := hide hz4
  clear h1 h2 h4 h5 hz1 hz2 hz4
  have hn1 : n1 ≤ 4096 := by omega
  have hn2 : n2 ≤ 4096 := by omega
  have hn4 : n4 ≤ 4096 := by omega
  have hn5 : n5 ≤ 4096 := by omega
  have hs4 : ¬ (4096 : Int) < (n1 : Int) + (n2 : Int) + (n4 : Int) + (n5 : Int) := by omega
  clear hsum
  have hmm := @run_makeMap Yba.prog
  go_enter Yba.func3, Yba.ntmps3
  go_upto_block 0 with fail
  clear hmm
  obtain ⟨W0, hW0⟩ : ∃ W0, ((w.alloc (.map #[] 0)).alloc (.map #[] 0)).alloc (.cells (swC f w.heap.size none 0 0 (w.heap.size + 1)) 28) = W0 := ⟨_, rfl⟩
  have HS0 := hide (Sx.new w f)
  rw [hW0] at HS0
  unfold swC at hW0
  rw [hW0]
  clear hW0 hs4
  obtain ⟨dis, hdis⟩ : ∃ dis, disR z2 n2 = dis := ⟨_, rfl⟩
  have HDIS := hide hdis
  clear hdis
  go_cut [61] (fun s W => Sx w W f n2 0 dis (fun _ => none) none 0 0)
  case first =>
    as_aux_lemma =>
    go_wp2_with fail
    go_loopw [61] (fun s W => ∃ k : Nat, k ≤ n2 ∧ s = .int .i64 k ∧ Hid (Sx w W f k 0 (disR z2 k) (fun _ => none) none 0 0)) (fun s _ => n2 - (intOf s).toNat)
    case atStart => exact ⟨0, by omega, rfl, HS0.out⟩
    case round =>
      clear HS0
      obtain ⟨k, hk, rfl, HS⟩ := hrel
      by_cases hlt : k < n2
      · obtain ⟨x, rfl, hc0⟩ := H2.out.get hlt
        have hc : wr.cell? (x.add k) = some (.int .u8 (z2 k)) := by rw [HS.out.bel.cell (World.block_lt_of_cell? _ _ hc0)]; exact hc0
        have bk : (k : Int) < (n2 : Int) := by omega
        have e1 : wr.cell? ⟨w.heap.size + 2, 1, none⟩ = some (.map (some w.heap.size)) := HS.out.cell 1
        have slt := HS.out.lt
        have HN := hide (name_any (z2 k) wr (HZ2.out k).1 (HZ2.out k).2)
        obtain ⟨nm, hnm⟩ : ∃ nm, nmB (z2 k) = nm := ⟨_, rfl⟩
        rw [hnm] at HN
        have hns : nm.size ≤ maxLen := by rw [← hnm]; have := nmB_size (z2 k); unfold maxLen; omega
        obtain ⟨v, g, l, hl⟩ := HS.out.md.look nm hns
        have HNM := hide hnm
        obtain ⟨bd, hbd⟩ : ∃ bd, disR z2 k nm = bd := ⟨_, rfl⟩
        rw [hbd] at hl
        unfold rl at hl
        obtain ⟨W1, hW1⟩ : ∃ W1, wr.alloc (.cells #[.string v, .string g, .int .i64 l] 31) = W1 := ⟨_, rfl⟩
        have HS1 : Hid (Sx w W1 f k 0 (disR z2 k) (fun _ => none) none 0 0) := by rw [← hW1]; exact HS.out.later ((Below.refl _ _).alloc (Nat.le_refl _) _)
        have HBD := hide hbd
        have HC0 := hide hc0
        clear hbd hnm hc0
        cases bd with
        | true =>
          have HR : Hid (Sx w W1 f (k + 1) 0 (disR z2 (k + 1)) (fun _ => none) none 0 0) := HS1.out.congrD (disR_same (by rw [HNM.out]; exact HBD.out)) (by omega)
          go_wp2_with (go_at_call 4; refine HN.out.mono ?_; rintro e w' ⟨rfl, hw⟩; obtain rfl := hw.symm)
          go_roundw
          case rel => exact ⟨k + 1, by omega, by go_num, HR⟩
          case measure => simp [intOf]; omega
        | false =>
          have e1' : W1.cell? ⟨w.heap.size + 2, 1, none⟩ = some (.map (some w.heap.size)) := HS1.out.cell 1
          obtain ⟨n, D, hn, ho, hr⟩ := HS1.out.md
          have HO := hide ho
          have HRR := hide hr
          have HK := hide (key9 nm hns)
          clear ho hr
          go_wp2_with (first | (go_at_call 4; refine HN.out.mono ?_; rintro e w' ⟨rfl, hw⟩; obtain rfl := hw.symm) | (at_mapUpdate; refine wpList_mapUpdate_in _ rfl _ _ _ 24 rfl 9 31 law9 Yba.underlying24 hv w.heap.size n D rfl HO.out (by unfold maxLen; omega) _ _ _ rfl rfl HK.out _ [] rfl ?_; intro w1 hown1 hturn1))
          have HR : Hid (Sx w w1 f (k + 1) 0 (disR z2 (k + 1)) (fun _ => none) none 0 0) := HS1.out.turnD (MD.put (l := 1) (v := nm) hn HO.out.isMap HRR.out (by rw [HNM.out]; exact hown1)) hturn1
          clear hown1 hturn1 HO HRR HK HS1 HS
          go_wp2_with fail
          go_roundw
          case rel => exact ⟨k + 1, by omega, by go_num, HR⟩
          case measure => simp [intOf]; omega
      · have hkn : k = n2 := by omega
        have hk2 : ¬ (k : Int) < (n2 : Int) := by omega
        have HR : Hid (Sx w wr f n2 0 dis (fun _ => none) none 0 0) := by rw [← HDIS.out, ← hkn]; exact HS.out
        clear hkn
        go_wp2_with fail
        go_meet
        case rel => exact HR.out
  case rest =>
    have HS1 := hide hcut
    clear hcut HS0
    obtain ⟨kN, hkN⟩ : ∃ kN : Nat, x3 % 4 = (kN : Int) := ⟨(x3 % 4).toNat, by omega⟩
    have hk4 : kN ≤ 3 := by omega
    have ekN : x3.tmod 4 = (kN : Int) := by rw [Int.tmod_eq_emod_of_nonneg hx0]; exact hkN
    obtain ⟨i31, hi31, hz31, hs31, hy31⟩ := info_parts info31
    have HI31 := hide (And.intro hi31 (And.intro hz31 (And.intro hs31 hy31)))
    clear hkN hi31 hz31 hs31 hy31
    go_wp2_with fail
    clear ekN
    go_loopw [20] (fun s W => ∃ (i : Nat) (oa : Option Addr) (oc : Nat), i ≤ kN ∧ s = .int .i64 i ∧ Hid (Sx w W f n2 0 dis (fun _ => none) oa i oc)) (fun s _ => kN - (intOf s).toNat)
    case atStart => exact ⟨0, none, 0, by omega, rfl, HS1.out⟩
    case round =>
      clear HS1
      obtain ⟨i, oa, oc, hik, rfl, HS⟩ := hrel
      by_cases hlt : i < kN
      · have bk : (i : Int) < (kN : Int) := by omega
        have e2 : wr.cell? ⟨w.heap.size + 1 + 1, 2, none⟩ = some (.slice oa i oc) := HS.out.cell 2
        have e2' : ∀ o, (wr.alloc o).cell? ⟨w.heap.size + 1 + 1, 2, none⟩ = some (.slice oa i oc) := fun o => by rw [((Below.refl wr.heap.size wr).alloc (Nat.le_refl _) o).cell (p := ⟨w.heap.size + 2, 2, none⟩) HS.out.lt]; exact e2
        have hwr1 : IntKind.i64.wrap ((i : Int) + 1) = (i : Int) + 1 := by rw [IntKind.wrap_i64]; omega
        obtain ⟨nm, hnm⟩ : ∃ nm, nmB (i : Int) = nm := ⟨_, rfl⟩
        obtain ⟨W5, hW5⟩ : ∃ W5, (wr.alloc (.cells #[.string nm, .string ⟨#[]⟩, .int .i64 ((i : Int) + 1)] 31)).drew = W5 := ⟨_, rfl⟩
        have hb5 : Below wr.heap.size wr W5 := by rw [← hW5]; exact ((Below.refl _ _).alloc (Nat.le_refl _) _).drew
        have hs5 : W5.heap.size = wr.heap.size + 1 := by rw [← hW5]; simp [World.drew]
        have hrow5 : W5.heap[wr.heap.size]? = some (.cells (onF i).toArray 31 (0, 0)) := by
          rw [← hW5, ← hnm]
          exact heap_alloc_new wr _
        have HNM := hide hnm
        have slt := HS.out.lt
        obtain ⟨v', w', hr, hown', hgr', -⟩ := run_append_own (P := Yba.prog) W5 (w.heap.size + 3) 26 26 31 i31 _ 3 40 Yba.underlying26 HI31.out.1 HI31.out.2.1 HI31.out.2.2.1 HI31.out.2.2.2 rfl (by decide) (.slice oa i oc) i _ (own_below HS.out.own hb5) ⟨wr.heap.size, 0, none⟩ 1 1 (onF i) rfl (fun j u hu => by rw [Addr.add_mid, Nat.zero_add, cell_of_row _ _ _ _ _ _ hrow5]; simpa using hu) (fun u hu => by simp only [onF, List.mem_cons, List.not_mem_nil, or_false] at hu; rcases hu with rfl | rfl | rfl <;> rfl) (by unfold maxLen; omega) (by omega) (by omega)
        obtain ⟨a', c', rfl, -⟩ := Rb.of_own (F := onF) (n := i + 1) (fun _ _ => rfl) hown'
        obtain ⟨⟨q2, q3⟩, hsx⟩ := HS.out.push hb5 hown' hgr'
        rw [← hW5] at hr
        have HR := hide hr
        have HSX := hide hsx
        clear hr hsx hown' hgr' hrow5 hs5 hb5 hW5 hnm
        go_wp2_with fail
        refine wp_region_noPanic ?_
        refine wp_region_held_drew (S := fun _ => True) (by kernel_rfl) trivial (fun hHeld => ?_)
        clear hHeld
        refine wpAnyH_take (i := 0) (oi := { dst := some 90, op := Op.fieldAddr 28 (Operand.tmp 13) 2, type := 0, pos := _, after := #[], guard := none }) (v := ?_) rfl (by kernel_rfl) (by kernel_rfl) (by kernel_rfl) (fun _ _ _ h => h) (Or.inl ⟨by rfl, ?_⟩) trivial ?_
        rotate_left
        · (intro w hSw; first | (go_simp; done) | (go_simp; with_reducible rfl))
        (try simp only [Act.put, List.setIfInBounds_toArray, List.set_cons_zero, List.set_cons_succ])
        refine wpAnyH_take (i := 2) (oi := { dst := some 92, op := Op.move (Operand.tmp 20), type := 3, pos := _, after := #[], guard := none }) (v := ?_) rfl (by kernel_rfl) (by kernel_rfl) (by kernel_rfl) (fun _ _ _ h => h) (Or.inl ⟨by rfl, ?_⟩) trivial ?_
        rotate_left
        · (intro w hSw; first | (go_simp; done) | (go_simp; with_reducible rfl))
        (try simp only [Act.put, List.setIfInBounds_toArray, List.set_cons_zero, List.set_cons_succ])
        refine wpAnyH_take (i := 3) (oi := { dst := some 93, op := Op.convert 3 5 (Operand.tmp 92), type := 5, pos := _, after := #[{ on := 2, ground := Ground.data }], guard := none }) (v := ?_) rfl (by kernel_rfl) (by kernel_rfl) (by kernel_rfl) (fun _ _ _ h => h) (Or.inl ⟨by rfl, ?_⟩) trivial ?_
        rotate_left
        · (intro w hSw; first | (go_simp; done) | (go_simp; with_reducible rfl))
        (try simp only [Act.put, List.setIfInBounds_toArray, List.set_cons_zero, List.set_cons_succ])
        refine wpAnyH_take (i := 5) (oi := { dst := some 95, op := Op.move (Operand.tmp 20), type := 3, pos := _, after := #[], guard := none }) (v := ?_) rfl (by kernel_rfl) (by kernel_rfl) (by kernel_rfl) (fun _ _ _ h => h) (Or.inl ⟨by rfl, ?_⟩) trivial ?_
        rotate_left
        · (intro w hSw; first | (go_simp; done) | (go_simp; with_reducible rfl))
        (try simp only [Act.put, List.setIfInBounds_toArray, List.set_cons_zero, List.set_cons_succ])
        refine wpAnyH_take (i := 6) (oi := { dst := some 96, op := Op.binOp BinOp.add 3 (Operand.tmp 95) (Operand.const (Value.int IntKind.i64 1)) 3, type := 3, pos := _, after := #[{ on := 5, ground := Ground.data }], guard := none }) (v := ?_) rfl (by kernel_rfl) (by kernel_rfl) (by kernel_rfl) (fun _ _ _ h => h) (Or.inl ⟨by rfl, ?_⟩) trivial ?_
        rotate_left
        · (intro w hSw; first | (go_simp; done) | (go_simp; with_reducible rfl))
        (try simp only [Act.put, List.setIfInBounds_toArray, List.set_cons_zero, List.set_cons_succ])
        refine wpAnyH_ready (rs := [1, 4]) (by kernel_rfl) (by simp) ?_
        refine AllReadyH.cons (o := { dst := some 91, op := Op.load 26 (Operand.tmp 90), type := 26, pos := _, after := #[{ on := 0, ground := Ground.data }], guard := none }) rfl (fun K hK => ?_) ?_
        · go_simp
          refine hK.out _ _ trivial (fun hHeld => ?_)
          clear hK K hHeld
          (try simp only [Act.put, List.setIfInBounds_toArray, List.set_cons_zero, List.set_cons_succ])
          refine wpAnyH_ready (rs := [4]) (by kernel_rfl) (by simp) ?_
          refine AllReadyH.cons (o := { dst := some 94, op := Op.call { callee := Callee.value (Operand.func 4), args := #[Operand.tmp 93], argTypes := #[5] }, type := 9, pos := _, after := #[{ on := 3, ground := Ground.data }], guard := none }) rfl (fun K hK => ?_) ?_
          · go_simp
            refine (name_at _ (i : Int) _ (by first | omega | (rw [IntKind.wrap_u8]; omega) | go_num) (by omega) (by omega)).mono ?_
            rw [HNM.out]
            rintro e w' ⟨rfl, hw⟩
            obtain rfl := hw.symm
            (try go_wp2_with fail)
            refine hK.out _ _ trivial (fun hHeld => ?_)
            clear hK K hHeld
            (try simp only [Act.put, List.setIfInBounds_toArray, List.set_cons_zero, List.set_cons_succ])
            refine wpAnyH_take (i := 7) (oi := { dst := some 97, op := Op.build 31 #[(0, Operand.tmp 94), (2, Operand.tmp 96)], type := 31, pos := _, after := #[{ on := 4, ground := Ground.data }, { on := 6, ground := Ground.data }], guard := none }) (v := ?_) rfl (by kernel_rfl) (by kernel_rfl) (by kernel_rfl) (fun _ _ _ h => h) (Or.inl ⟨by rfl, ?_⟩) trivial ?_
            rotate_left
            · (intro w hSw; first | (go_simp; done) | (go_simp; with_reducible rfl))
            (try simp only [Act.put, List.setIfInBounds_toArray, List.set_cons_zero, List.set_cons_succ])
            refine wpAnyH_ready (rs := [8]) (by kernel_rfl) (by simp) ?_
            refine AllReadyH.cons (o := { dst := some 98, op := Op.buildSlice 26 1 #[(0, Operand.tmp 97)], type := 26, pos := _, after := #[{ on := 7, ground := Ground.data }], guard := none }) rfl (fun K hK => ?_) ?_
            · go_simp
              refine hK.out _ _ trivial (fun hHeld => ?_)
              clear hK K hHeld
              (try simp only [Act.put, List.setIfInBounds_toArray, List.set_cons_zero, List.set_cons_succ])
              refine wpAnyH_ready (rs := [9]) (by kernel_rfl) (by simp) ?_
              refine AllReadyH.cons (o := { dst := some 99, op := Op.call { callee := Callee.builtin Builtin.append, args := #[Operand.tmp 91, Operand.tmp 98], argTypes := #[26, 26] }, type := 26, pos := _, after := #[{ on := 1, ground := Ground.data }, { on := 8, ground := Ground.data }, { on := 4, ground := Ground.chain }], guard := none }) rfl (fun K hK => ?_) ?_
              · rw [if_pos (by rfl)]
                refine wp_of_append (.tmp 91) (.tmp 98) 26 26 rfl rfl rfl rfl HR.out ?_
                refine hK.out _ _ trivial (fun hHeld => ?_)
                clear hK K hHeld
                (try simp only [Act.put, List.setIfInBounds_toArray, List.set_cons_zero, List.set_cons_succ])
                refine wpAnyH_take (i := 10) (oi := { dst := some 100, op := Op.fieldAddr 28 (Operand.tmp 13) 2, type := 0, pos := _, after := #[{ on := 0, ground := Ground.phase }, { on := 1, ground := Ground.phase }, { on := 2, ground := Ground.phase }, { on := 3, ground := Ground.phase }, { on := 4, ground := Ground.phase }, { on := 5, ground := Ground.phase }, { on := 6, ground := Ground.phase }, { on := 7, ground := Ground.phase }, { on := 8, ground := Ground.phase }, { on := 9, ground := Ground.phase }], guard := none }) (v := ?_) rfl (by kernel_rfl) (by kernel_rfl) (by kernel_rfl) (fun _ _ _ h => h) (Or.inl ⟨by rfl, ?_⟩) trivial ?_
                rotate_left
                · (intro w hSw; first | (go_simp; done) | (go_simp; with_reducible rfl))
                (try simp only [Act.put, List.setIfInBounds_toArray, List.set_cons_zero, List.set_cons_succ])
                refine wpAnyH_ready (rs := [11]) (by kernel_rfl) (by simp) ?_
                refine AllReadyH.cons (o := { dst := none, op := Op.store 26 (Operand.tmp 100) (Operand.tmp 99), type := 0, pos := _, after := #[{ on := 10, ground := Ground.data }, { on := 9, ground := Ground.data }, { on := 9, ground := Ground.chain }, { on := 0, ground := Ground.phase }, { on := 1, ground := Ground.phase }, { on := 2, ground := Ground.phase }, { on := 3, ground := Ground.phase }, { on := 4, ground := Ground.phase }, { on := 5, ground := Ground.phase }, { on := 6, ground := Ground.phase }, { on := 7, ground := Ground.phase }, { on := 8, ground := Ground.phase }, { on := 9, ground := Ground.phase }], guard := none }) rfl (fun K hK => ?_) ?_
                · go_simp
                  refine hK.out _ _ trivial (fun hHeld => ?_)
                  clear hK K hHeld
                  (try simp only [Act.put, List.setIfInBounds_toArray, List.set_cons_zero, List.set_cons_succ])
                  refine wpAnyH_done (by kernel_rfl) ?_ _
                  refine NoPanic.normal ?_
                  go_wp2_with fail
                  go_roundw
                  case rel => exact ⟨i + 1, a', c', by omega, by go_num, HSX.out⟩
                  case measure => simp [intOf]; omega
                exact AllReadyH.nil
              exact AllReadyH.nil
            exact AllReadyH.nil
          exact AllReadyH.nil
        refine AllReadyH.cons (o := { dst := some 94, op := Op.call { callee := Callee.value (Operand.func 4), args := #[Operand.tmp 93], argTypes := #[5] }, type := 9, pos := _, after := #[{ on := 3, ground := Ground.data }], guard := none }) rfl (fun K hK => ?_) ?_
        · go_simp
          refine (name_at _ (i : Int) _ (by first | omega | (rw [IntKind.wrap_u8]; omega) | go_num) (by omega) (by omega)).mono ?_
          rw [HNM.out]
          rintro e w' ⟨rfl, hw⟩
          obtain rfl := hw.symm
          (try go_wp2_with fail)
          refine hK.out _ _ trivial (fun hHeld => ?_)
          clear hK K hHeld
          (try simp only [Act.put, List.setIfInBounds_toArray, List.set_cons_zero, List.set_cons_succ])
          refine wpAnyH_take (i := 7) (oi := { dst := some 97, op := Op.build 31 #[(0, Operand.tmp 94), (2, Operand.tmp 96)], type := 31, pos := _, after := #[{ on := 4, ground := Ground.data }, { on := 6, ground := Ground.data }], guard := none }) (v := ?_) rfl (by kernel_rfl) (by kernel_rfl) (by kernel_rfl) (fun _ _ _ h => h) (Or.inl ⟨by rfl, ?_⟩) trivial ?_
          rotate_left
          · (intro w hSw; first | (go_simp; done) | (go_simp; with_reducible rfl))
          (try simp only [Act.put, List.setIfInBounds_toArray, List.set_cons_zero, List.set_cons_succ])
          refine wpAnyH_ready (rs := [1, 8]) (by kernel_rfl) (by simp) ?_
          refine AllReadyH.cons (o := { dst := some 91, op := Op.load 26 (Operand.tmp 90), type := 26, pos := _, after := #[{ on := 0, ground := Ground.data }], guard := none }) rfl (fun K hK => ?_) ?_
          · go_simp
            refine hK.out _ _ trivial (fun hHeld => ?_)
            clear hK K hHeld
            (try simp only [Act.put, List.setIfInBounds_toArray, List.set_cons_zero, List.set_cons_succ])
            refine wpAnyH_ready (rs := [8]) (by kernel_rfl) (by simp) ?_
            refine AllReadyH.cons (o := { dst := some 98, op := Op.buildSlice 26 1 #[(0, Operand.tmp 97)], type := 26, pos := _, after := #[{ on := 7, ground := Ground.data }], guard := none }) rfl (fun K hK => ?_) ?_
            · go_simp
              refine hK.out _ _ trivial (fun hHeld => ?_)
              clear hK K hHeld
              (try simp only [Act.put, List.setIfInBounds_toArray, List.set_cons_zero, List.set_cons_succ])
              refine wpAnyH_ready (rs := [9]) (by kernel_rfl) (by simp) ?_
              refine AllReadyH.cons (o := { dst := some 99, op := Op.call { callee := Callee.builtin Builtin.append, args := #[Operand.tmp 91, Operand.tmp 98], argTypes := #[26, 26] }, type := 26, pos := _, after := #[{ on := 1, ground := Ground.data }, { on := 8, ground := Ground.data }, { on := 4, ground := Ground.chain }], guard := none }) rfl (fun K hK => ?_) ?_
              · rw [if_pos (by rfl)]
                refine wp_of_append (.tmp 91) (.tmp 98) 26 26 rfl rfl rfl rfl HR.out ?_
                refine hK.out _ _ trivial (fun hHeld => ?_)
                clear hK K hHeld
                (try simp only [Act.put, List.setIfInBounds_toArray, List.set_cons_zero, List.set_cons_succ])
                refine wpAnyH_take (i := 10) (oi := { dst := some 100, op := Op.fieldAddr 28 (Operand.tmp 13) 2, type := 0, pos := _, after := #[{ on := 0, ground := Ground.phase }, { on := 1, ground := Ground.phase }, { on := 2, ground := Ground.phase }, { on := 3, ground := Ground.phase }, { on := 4, ground := Ground.phase }, { on := 5, ground := Ground.phase }, { on := 6, ground := Ground.phase }, { on := 7, ground := Ground.phase }, { on := 8, ground := Ground.phase }, { on := 9, ground := Ground.phase }], guard := none }) (v := ?_) rfl (by kernel_rfl) (by kernel_rfl) (by kernel_rfl) (fun _ _ _ h => h) (Or.inl ⟨by rfl, ?_⟩) trivial ?_
                rotate_left
                · (intro w hSw; first | (go_simp; done) | (go_simp; with_reducible rfl))
                (try simp only [Act.put, List.setIfInBounds_toArray, List.set_cons_zero, List.set_cons_succ])
                refine wpAnyH_ready (rs := [11]) (by kernel_rfl) (by simp) ?_
                refine AllReadyH.cons (o := { dst := none, op := Op.store 26 (Operand.tmp 100) (Operand.tmp 99), type := 0, pos := _, after := #[{ on := 10, ground := Ground.data }, { on := 9, ground := Ground.data }, { on := 9, ground := Ground.chain }, { on := 0, ground := Ground.phase }, { on := 1, ground := Ground.phase }, { on := 2, ground := Ground.phase }, { on := 3, ground := Ground.phase }, { on := 4, ground := Ground.phase }, { on := 5, ground := Ground.phase }, { on := 6, ground := Ground.phase }, { on := 7, ground := Ground.phase }, { on := 8, ground := Ground.phase }, { on := 9, ground := Ground.phase }], guard := none }) rfl (fun K hK => ?_) ?_
                · go_simp
                  refine hK.out _ _ trivial (fun hHeld => ?_)
                  clear hK K hHeld
                  (try simp only [Act.put, List.setIfInBounds_toArray, List.set_cons_zero, List.set_cons_succ])
                  refine wpAnyH_done (by kernel_rfl) ?_ _
                  refine NoPanic.normal ?_
                  go_wp2_with fail
                  go_roundw
                  case rel => exact ⟨i + 1, a', c', by omega, by go_num, HSX.out⟩
                  case measure => simp [intOf]; omega
                exact AllReadyH.nil
              exact AllReadyH.nil
            exact AllReadyH.nil
          refine AllReadyH.cons (o := { dst := some 98, op := Op.buildSlice 26 1 #[(0, Operand.tmp 97)], type := 26, pos := _, after := #[{ on := 7, ground := Ground.data }], guard := none }) rfl (fun K hK => ?_) ?_
          · go_simp
            refine hK.out _ _ trivial (fun hHeld => ?_)
            clear hK K hHeld
            (try simp only [Act.put, List.setIfInBounds_toArray, List.set_cons_zero, List.set_cons_succ])
            refine wpAnyH_ready (rs := [1]) (by kernel_rfl) (by simp) ?_
            refine AllReadyH.cons (o := { dst := some 91, op := Op.load 26 (Operand.tmp 90), type := 26, pos := _, after := #[{ on := 0, ground := Ground.data }], guard := none }) rfl (fun K hK => ?_) ?_
            · go_simp
              refine hK.out _ _ trivial (fun hHeld => ?_)
              clear hK K hHeld
              (try simp only [Act.put, List.setIfInBounds_toArray, List.set_cons_zero, List.set_cons_succ])
              refine wpAnyH_ready (rs := [9]) (by kernel_rfl) (by simp) ?_
              refine AllReadyH.cons (o := { dst := some 99, op := Op.call { callee := Callee.builtin Builtin.append, args := #[Operand.tmp 91, Operand.tmp 98], argTypes := #[26, 26] }, type := 26, pos := _, after := #[{ on := 1, ground := Ground.data }, { on := 8, ground := Ground.data }, { on := 4, ground := Ground.chain }], guard := none }) rfl (fun K hK => ?_) ?_
              · rw [if_pos (by rfl)]
                refine wp_of_append (.tmp 91) (.tmp 98) 26 26 rfl rfl rfl rfl HR.out ?_
                refine hK.out _ _ trivial (fun hHeld => ?_)
                clear hK K hHeld
                (try simp only [Act.put, List.setIfInBounds_toArray, List.set_cons_zero, List.set_cons_succ])
                refine wpAnyH_take (i := 10) (oi := { dst := some 100, op := Op.fieldAddr 28 (Operand.tmp 13) 2, type := 0, pos := _, after := #[{ on := 0, ground := Ground.phase }, { on := 1, ground := Ground.phase }, { on := 2, ground := Ground.phase }, { on := 3, ground := Ground.phase }, { on := 4, ground := Ground.phase }, { on := 5, ground := Ground.phase }, { on := 6, ground := Ground.phase }, { on := 7, ground := Ground.phase }, { on := 8, ground := Ground.phase }, { on := 9, ground := Ground.phase }], guard := none }) (v := ?_) rfl (by kernel_rfl) (by kernel_rfl) (by kernel_rfl) (fun _ _ _ h => h) (Or.inl ⟨by rfl, ?_⟩) trivial ?_
                rotate_left
                · (intro w hSw; first | (go_simp; done) | (go_simp; with_reducible rfl))
                (try simp only [Act.put, List.setIfInBounds_toArray, List.set_cons_zero, List.set_cons_succ])
                refine wpAnyH_ready (rs := [11]) (by kernel_rfl) (by simp) ?_
                refine AllReadyH.cons (o := { dst := none, op := Op.store 26 (Operand.tmp 100) (Operand.tmp 99), type := 0, pos := _, after := #[{ on := 10, ground := Ground.data }, { on := 9, ground := Ground.data }, { on := 9, ground := Ground.chain }, { on := 0, ground := Ground.phase }, { on := 1, ground := Ground.phase }, { on := 2, ground := Ground.phase }, { on := 3, ground := Ground.phase }, { on := 4, ground := Ground.phase }, { on := 5, ground := Ground.phase }, { on := 6, ground := Ground.phase }, { on := 7, ground := Ground.phase }, { on := 8, ground := Ground.phase }, { on := 9, ground := Ground.phase }], guard := none }) rfl (fun K hK => ?_) ?_
                · go_simp
                  refine hK.out _ _ trivial (fun hHeld => ?_)
                  clear hK K hHeld
                  (try simp only [Act.put, List.setIfInBounds_toArray, List.set_cons_zero, List.set_cons_succ])
                  refine wpAnyH_done (by kernel_rfl) ?_ _
                  refine NoPanic.normal ?_
                  go_wp2_with fail
                  go_roundw
                  case rel => exact ⟨i + 1, a', c', by omega, by go_num, HSX.out⟩
                  case measure => simp [intOf]; omega
                exact AllReadyH.nil
              exact AllReadyH.nil
            exact AllReadyH.nil
          exact AllReadyH.nil
        exact AllReadyH.nil
      · have hkn : i = kN := by omega
        have hk2 : ¬ (i : Int) < (kN : Int) := by omega
        have HS2 : Hid (Sx w wr f n2 0 dis (fun _ => none) oa kN oc) := by rw [← hkn]; exact HS.out
        clear hkn HS
        obtain ⟨m, hm⟩ : ∃ m : Nat, min n4 n5 = m := ⟨_, rfl⟩
        have hm4 : m ≤ n4 := by omega
        have hm5 : m ≤ n5 := by omega
        have HMM := hide hm
        clear hm
        obtain ⟨fst, hfst⟩ : ∃ fst, fstR z4 y5 m = fst := ⟨_, rfl⟩
        have HFST := hide hfst
        clear hfst
        go_upto_if 106 with fail
        go_cut [21] (fun s W => s = .int .i64 m ∧ W = wr)
        case first =>
          as_aux_lemma =>
          have hm := HMM.out
          by_cases hlt : n5 < n4
          · have hb : (n5 : Int) < (n4 : Int) := by omega
            have hme := hide (show n5 = m by omega)
            clear hm
            go_wp2_with fail
            go_meet
            case rel => exact ⟨by rw [hme.out], rfl⟩
          · have hb : ¬ (n5 : Int) < (n4 : Int) := by omega
            have hme := hide (show n4 = m by omega)
            clear hm
            go_wp2_with fail
            go_meet
            case rel => exact ⟨by rw [hme.out], rfl⟩
        case rest =>
          as_aux_lemma =>
          obtain ⟨rfl, hwc⟩ := hcut
          obtain rfl := hwc.symm
          go_upto_block 4 with fail
          go_cut [22] (fun s W => Sx w W f n2 m dis fst oa kN oc)
          case first =>
            as_aux_lemma =>
            go_wp2_with fail
            go_loopw [22] (fun s W => ∃ k : Nat, k ≤ m ∧ s = .int .i64 k ∧ Hid (Sx w W f n2 k dis (fstR z4 y5 k) oa kN oc)) (fun s _ => m - (intOf s).toNat)
            case atStart => exact ⟨0, by omega, rfl, HS2.out.congrF (fun _ => rfl) (by omega)⟩
            case round =>
              clear HS2
              obtain ⟨k, hk, rfl, HS⟩ := hrel
              by_cases hlt : k < m
              · obtain ⟨x, rfl, hc0⟩ := H4.out.get (show k < n4 by omega)
                obtain ⟨x', rfl, hc0'⟩ := H5.out.get (show k < n5 by omega)
                have hc : wr.cell? (x.add k) = some (.int .u8 (z4 k)) := by rw [HS.out.bel.cell (World.block_lt_of_cell? _ _ hc0)]; exact hc0
                have hc' : wr.cell? (x'.add k) = some (.int .i64 (y5 k)) := by rw [HS.out.bel.cell (World.block_lt_of_cell? _ _ hc0')]; exact hc0'
                have bm : (k : Int) < (m : Int) := by omega
                have bk : (k : Int) < (n4 : Int) := by omega
                have bk' : (k : Int) < (n5 : Int) := by omega
                have e1 : wr.cell? ⟨w.heap.size + 2, 3, none⟩ = some (.map (some (w.heap.size + 1))) := HS.out.cell 3
                have HN := hide (name_any (z4 k) wr (HZ4.out k).1 (HZ4.out k).2)
                obtain ⟨nm, hnm⟩ : ∃ nm, nmB (z4 k) = nm := ⟨_, rfl⟩
                rw [hnm] at HN
                have hns : nm.size ≤ maxLen := by rw [← hnm]; have := nmB_size (z4 k); unfold maxLen; omega
                have hl := HS.out.mf.look nm hns
                have HNM := hide hnm
                obtain ⟨bd, hbd⟩ : ∃ bd, (fstR z4 y5 k nm).isSome = bd := ⟨_, rfl⟩
                obtain ⟨gv, hgv⟩ : ∃ gv, (fstR z4 y5 k nm).getD 0 = gv := ⟨_, rfl⟩
                rw [hbd, hgv] at hl
                have HBD := hide hbd
                clear hbd hnm hc0 hc0' hgv
                cases bd with
                | true =>
                  have HR : Hid (Sx w wr f n2 (k + 1) dis (fstR z4 y5 (k + 1)) oa kN oc) := HS.out.congrF (fstR_same (by rw [HNM.out]; exact HBD.out)) (by omega)
                  go_wp2_with (go_at_call 4; refine HN.out.mono ?_; rintro e w' ⟨rfl, hw⟩; obtain rfl := hw.symm)
                  go_roundw
                  case rel => exact ⟨k + 1, by omega, by go_num, HR⟩
                  case measure => simp [intOf]; omega
                | false =>
                  obtain ⟨n, D, hn, ho, hr⟩ := HS.out.mf
                  obtain ⟨w1, hrun, hown1, hturn1⟩ := (ho.drew).store (t := 25) (e := 3) law9 Yba.underlying25 (by unfold maxLen; omega) (key := .string nm) (val := .int .i64 (y5 k)) (key9 nm hns) (d := .held (.int .i64 (y5 k))) (ps := []) rfl
                  have hsd : Sx w wr.drew f n2 k dis (fstR z4 y5 k) oa kN oc := HS.out.later ((Below.refl _ _).drew)
                  have hno : fstR z4 y5 k (nmB (z4 k)) = none := by rw [HNM.out]; exact Option.not_isSome_iff_eq_none.1 (by rw [HBD.out]; simp)
                  have HR : Hid (Sx w w1 f n2 (k + 1) dis (fstR z4 y5 (k + 1)) oa kN oc) := hsd.turnF (MF.put hn ho.isMap hno hr (by rw [HNM.out]; exact hown1)) hturn1
                  clear hown1 hturn1 ho hr hsd hno
                  go_wp2_with (go_at_call 4; refine HN.out.mono ?_; rintro e w' ⟨rfl, hw⟩; obtain rfl := hw.symm)
                  go_region
                  go_wp2_with fail
                  go_roundw
                  case rel => exact ⟨k + 1, by omega, by go_num, HR⟩
                  case measure => simp [intOf]; omega
              · have hkn : k = m := by omega
                have hk2 : ¬ (k : Int) < (m : Int) := by omega
                have HR : Hid (Sx w wr f n2 m dis fst oa kN oc) := by rw [← HFST.out, ← hkn]; exact HS.out
                clear hkn
                go_wp2_with fail
                go_meet
                case rel => exact HR.out
          case rest =>
            as_aux_lemma =>
            obtain ⟨Wm, hWm⟩ : ∃ Wm, Wm = wc := ⟨_, rfl⟩
            subst hWm
            have HS3 := hide hcut
            clear hcut HS2
            obtain ⟨i36, hi36, hz36, hs36, hy36⟩ := info_parts info36
            obtain ⟨L, hL⟩ : ∃ L : Nat → ByteArray, (fun j => nmB (z1 j)) = L := ⟨_, rfl⟩
            have HLL := hide hL
            have hLj : ∀ j, nmB (z1 j) = L j := fun j => by rw [← hL]
            have HLJ := hide hLj
            clear hL hLj
            go_wp2_with (at_make; refine wpList_make_full _ rfl _ _ _ rfl w.heap.size 36 i36 _ 2 Yba.underlying34 hi36 hz36 hs36 _ _ _ _ n1 rfl rfl (by rfl) (by rfl) (by rw [hy36]; omega) (by unfold maxLen; omega) HS3.out.bel.size ?_)
            intro W4 hown4 hgrow4
            have hrb4 : Rb w.heap.size 36 2 W4 Wm.heap.size n1 _ := Rb.made rfl (by omega) hown4
            have hb4 : Below Wm.heap.size Wm W4 := (Below.refl _ _).grown hgrow4 (Nat.le_refl _) (by simp)
            have HRB4 := hide hrb4
            have HB4 := hide hb4
            clear hown4 hgrow4 hrb4 hb4 hi36 hz36 hs36 hy36
            go_upto_block 6 with fail
            go_cut [140] (fun s W => Below Wm.heap.size Wm W ∧ Rb w.heap.size 36 2 W Wm.heap.size n1 (moC f L))
            case first =>
              as_aux_lemma =>
              go_wp2_with fail
              go_loopw [140] (fun s W => ∃ k : Nat, k ≤ n1 ∧ s = .int .i64 k ∧ Hid (Below Wm.heap.size Wm W ∧ Rb w.heap.size 36 2 W Wm.heap.size n1 (fun j => if j < k then moC f L j else [.string ⟨#[]⟩, .string ⟨#[]⟩]))) (fun s _ => n1 - (intOf s).toNat)
              case atStart => exact ⟨0, by omega, rfl, HB4.out, HRB4.out.congr fun j hj => by rw [if_neg (by omega)]⟩
              case round =>
                clear HB4 HRB4
                obtain ⟨k, hk, rfl, HX⟩ := hrel
                by_cases hlt : k < n1
                · obtain ⟨x, rfl, hc0⟩ := H1.out.get hlt
                  have hbel := HS3.out.bel.trans (HX.out.1.mono HS3.out.bel.size)
                  have hc : wr.cell? (x.add k) = some (.int .u8 (z1 k)) := by rw [hbel.cell (World.block_lt_of_cell? _ _ hc0)]; exact hc0
                  have bk : (k : Int) < (n1 : Int) := by omega
                  have HN := hide (name_any (z1 k) wr (HZ1.out k).1 (HZ1.out k).2)
                  rw [HLJ.out k] at HN
                  have d0 := HX.out.2.cell (c := 0) hlt (by rw [if_neg (by omega)]; rfl)
                  have d1 := HX.out.2.cell (c := 1) hlt (by rw [if_neg (by omega)]; rfl)
                  simp only [Nat.add_zero] at d0
                  have hfr : ∀ o, wr.frozen? ⟨Wm.heap.size, o, none⟩ = false := fun o => by
                    obtain ⟨cur, hg, _⟩ := HX.out.2.row
                    exact frozen_of_row wr _ _ _ _ hg
                  have hput := HX.out.2.put hlt (moC f L k) rfl
                  have HPUT : Hid (Rb w.heap.size 36 2 (wr.setCells Wm.heap.size (k * 2) (moC f L k)) Wm.heap.size n1 (fun j => if j < k + 1 then moC f L j else [.string ⟨#[]⟩, .string ⟨#[]⟩])) := hput.congr fun j hj => by
                    by_cases e : j = k
                    · subst e; rw [if_pos rfl, if_pos (by omega)]
                    · rw [if_neg e]
                      by_cases e2 : j < k
                      · rw [if_pos e2, if_pos (by omega)]
                      · rw [if_neg e2, if_neg (by omega)]
                  have HB : Hid (Below Wm.heap.size Wm (wr.setCells Wm.heap.size (k * 2) (moC f L k))) := setCells_below _ (Nat.le_refl _) _ _ _ HX.out.1
                  obtain ⟨W5, hW5⟩ : ∃ W5, wr.setCells Wm.heap.size (k * 2) (moC f L k) = W5 := ⟨_, rfl⟩
                  rw [hW5] at HPUT HB
                  simp only [moC, World.setCells] at hW5
                  clear hput hbel hc0 HX
                  go_wp2_with (go_at_call 4; refine HN.out.mono ?_; rintro e w' ⟨rfl, hw⟩; obtain rfl := hw.symm)
                  go_roundw
                  case rel => exact ⟨k + 1, by omega, by go_num, HB.out, HPUT.out⟩
                  case measure => simp [intOf]; omega
                · have hk2 : ¬ (k : Int) < (n1 : Int) := by omega
                  have HR : Hid (Below Wm.heap.size Wm wr ∧ Rb w.heap.size 36 2 wr Wm.heap.size n1 (moC f L)) := ⟨HX.out.1, HX.out.2.congr fun j hj => by rw [if_pos (by omega)]⟩
                  clear HX
                  go_wp2_with fail
                  go_meet
                  case rel => exact HR.out
            case rest =>
              as_aux_lemma =>
              obtain ⟨hb5, hrb5⟩ := hcut
              obtain ⟨W5, hW5⟩ : ∃ W5, W5 = wc := ⟨_, rfl⟩
              subst hW5
              have HS5 := hide (HS3.out.later hb5)
              have HRB5 := hide hrb5
              have HC := hide (clone_any w.heap.size W5 Wm.heap.size n1 n1 f L hrb5 (by omega))
              clear hb5 hrb5 HS3 HB4 HRB4
              go_wp2_with (go_at_call 5; refine HC.out.mono ?_; rintro e W6 ⟨a6, c6, rfl, hrs6, hb6⟩; have HRS6 := hide hrs6; have HB6 := hide hb6; have HS6 := hide (HS5.out.later hb6); have HRB6 := hide (HRB5.out.below hb6 HRB5.out.lt); have t0 : W6.cell? ⟨w.heap.size + 1 + 1, 0, none⟩ = some (.string f) := HS6.out.cell 0; have t1 : W6.cell? ⟨w.heap.size + 1 + 1, 1, none⟩ = some (.map (some w.heap.size)) := HS6.out.cell 1; have t2 : W6.cell? ⟨w.heap.size + 1 + 1, 2, none⟩ = some (.slice oa kN oc) := HS6.out.cell 2; have t3 : W6.cell? ⟨w.heap.size + 1 + 1, 3, none⟩ = some (.map (some (w.heap.size + 1))) := HS6.out.cell 3; clear hrs6 hb6 HC HS5 HRB5)
              have HBI := hide (bio_any f w.heap.size oa kN oc (w.heap.size + 1) n2 m dis fst Wm.heap.size n1 n1 L W6 HS6.out.md HS6.out.mf HS6.out.only (by omega) hn1 (fun j => by rw [← HLJ.out]; exact nmB_size _) (fun j hj => ⟨by have h := HRB6.out.cell (c := 0) hj rfl; simpa using h, HRB6.out.cell (c := 1) hj rfl⟩))
              unfold swC at HBI
              obtain ⟨kb, hkb⟩ : ∃ kb : ByteArray → Bool, (fun s => !offB dis fst kN s) = kb := ⟨_, rfl⟩
              rw [hkb] at HBI
              have hkb' : ∀ s, kb s = !offB dis fst kN s := fun s => by rw [← hkb]
              have HKB := hide hkb'
              clear hkb hkb'
              obtain ⟨l, hl⟩ : ∃ l, KL kb L n1 = l := ⟨_, rfl⟩
              have hll : l.length ≤ 4096 := by rw [← hl]; have := KL_len kb L n1; omega
              rw [hl] at HBI
              have HLK := hide hl
              clear hl
              refine HBI.out.mono ?_
              rintro e W7 ⟨a7, c7, rfl, hb7, hres⟩
              have HB7 := hide hb7
              have HRES := hide hres
              clear hb7 hres HBI t0 t1 t2 t3
              go_upto_block 8 with fail
              go_cut [31, 32] (fun s t W => Kn W7 W fst s t l)
              case first =>
                as_aux_lemma =>
                obtain ⟨i9, hi9, hz9, hs9, hy9⟩ := info_parts info9'
                obtain ⟨i3, hi3, hz3, hs3, hy3⟩ := info_parts info3'
                have hbw7 : Below w.heap.size w W7 := HS6.out.bel.trans (HB7.out.mono HS6.out.bel.size)
                have HA2 := hide (H2.out.below hbw7)
                have HA4 := hide (H4.out.below hbw7)
                have HA5 := hide (H5.out.below hbw7)
                have HA1 := hide (H1.out.below hbw7)
                clear hbw7
                go_wp2_with fail
                go_loopw [31, 32, 160] (fun s t i W => ∃ (sv tv : Value) (k : Nat), s = sv ∧ t = tv ∧ k ≤ n1 ∧ i = .int .i64 k ∧ Hid (Kn W7 W fst sv tv (KL kb L k))) (fun _ _ i _ => n1 - (intOf i).toNat)
                case atStart => exact ⟨_, _, 0, rfl, rfl, by omega, rfl, Kn.new W7 fst⟩
                case round =>
                  obtain ⟨sv, tv, k, hsv, htv, hk, rfl, HX⟩ := hrel
                  obtain rfl := hsv.symm
                  obtain rfl := htv.symm
                  by_cases hlt : k < n1
                  · obtain ⟨x, rfl, hc⟩ := (HA1.out.below HX.out.bel).get hlt
                    have bk : (k : Int) < (n1 : Int) := by omega
                    have HN := hide (name_any (z1 k) wr (HZ1.out k).1 (HZ1.out k).2)
                    rw [HLJ.out k] at HN
                    obtain ⟨nm, hnm⟩ : ∃ nm, L k = nm := ⟨_, rfl⟩
                    rw [hnm] at HN
                    have HNM := hide hnm
                    clear hnm
                    have HDS := hide (disabled_any a2 n2 c2 z2 nm wr (HA2.out.below HX.out.bel) HZ2.out hn2)
                    rw [HDIS.out] at HDS
                    have HFS := hide (first_any a4 a5 n4 n5 c4 c5 m z4 y5 nm wr (HA4.out.below HX.out.bel) (HA5.out.below HX.out.bel) HZ4.out hm4 hm5 hn4 hn5)
                    rw [HFST.out] at HFS
                    obtain ⟨bd, hbd⟩ : ∃ bd, dis nm = bd := ⟨_, rfl⟩
                    obtain ⟨bf, hbf⟩ : ∃ bf, (fst nm).isSome = bf := ⟨_, rfl⟩
                    obtain ⟨gv, hgv⟩ : ∃ gv, (fst nm).getD 0 = gv := ⟨_, rfl⟩
                    have hkn : kb nm = !(bd || (decide (0 < kN) && !bf)) := by rw [HKB.out]; unfold offB; rw [hbd, hbf]
                    have HKN := hide hkn
                    rw [hbd] at HDS
                    rw [hbf, hgv] at HFS
                    have HGV := hide hgv
                    clear hbd hbf hkn hgv
                    cases bd with
                    | true =>
                      have HR : Hid (Kn W7 wr fst sv tv (KL kb L (k + 1))) := by rw [KL_skip (by rw [HNM.out, HKN.out]; rfl)]; exact HX
                      go_wp2_with (first | (go_at_call 4; refine HN.out.mono ?_; rintro e w' ⟨rfl, hw⟩; obtain rfl := hw.symm) | (go_at_call 7; refine HDS.out.mono ?_; rintro e w' ⟨rfl, hw⟩; obtain rfl := hw.symm))
                      go_roundw
                      case rel => exact ⟨_, _, k + 1, rfl, rfl, by omega, by go_num, HR⟩
                      case measure => simp [intOf]; omega
                    | false =>
                      by_cases hsk : 0 < kN ∧ bf = false
                      · obtain ⟨hk0, rfl⟩ := hsk
                        have hk0i : (0 : Int) < (kN : Int) := by omega
                        have HR : Hid (Kn W7 wr fst sv tv (KL kb L (k + 1))) := by rw [KL_skip (by rw [HNM.out, HKN.out, decide_eq_true hk0]; rfl)]; exact HX
                        go_wp2_with (first | (go_at_call 4; refine HN.out.mono ?_; rintro e w' ⟨rfl, hw⟩; obtain rfl := hw.symm) | (go_at_call 7; refine HDS.out.mono ?_; rintro e w' ⟨rfl, hw⟩; obtain rfl := hw.symm) | (go_at_call 8; refine HFS.out.mono ?_; rintro e w' ⟨rfl, hw⟩; obtain rfl := hw.symm))
                        go_roundw
                        case rel => exact ⟨_, _, k + 1, rfl, rfl, by omega, by go_num, HR⟩
                        case measure => simp [intOf]; omega
                      · have HKT : Hid (kb nm = true) := by
                          show kb nm = true
                          rw [HKN.out]
                          by_cases h0 : 0 < kN
                          · have : bf = true := by cases bf with
                              | true => rfl
                              | false => exact absurd ⟨h0, rfl⟩ hsk
                            rw [this]; simp
                          · rw [decide_eq_false h0]; simp
                        have hkc : (kN = 0) ∨ (0 < kN ∧ bf = true) := by
                          by_cases h0 : kN = 0
                          · exact .inl h0
                          · refine .inr ⟨by omega, ?_⟩
                            cases bf with
                            | true => rfl
                            | false => exact absurd ⟨by omega, rfl⟩ hsk
                        have hlk : (KL kb L k).length ≤ 4096 := by have := KL_len kb L k; omega
                        clear hsk
                        have hgu : ((0 : Int) < (kN : Int) ∧ bf = true) ∨ ¬ (0 : Int) < (kN : Int) := by
                          rcases hkc with h | ⟨h, hb⟩
                          · exact .inr (by omega)
                          · exact .inl ⟨by omega, hb⟩
                        clear hkc
                        rcases hgu with ⟨hk0i, rfl⟩ | hk0i
                        all_goals
                          go_wp2_with (first | (go_at_call 4; refine HN.out.mono ?_; rintro e w' ⟨rfl, hw⟩; obtain rfl := hw.symm) | (go_at_call 7; refine HDS.out.mono ?_; rintro e w' ⟨rfl, hw⟩; obtain rfl := hw.symm) | (go_at_call 8; refine HFS.out.mono ?_; rintro e w' ⟨rfl, hw⟩; obtain rfl := hw.symm) | (refine at_op (.call { callee := .builtin .append, args := #[.tmp 183, .tmp 185], argTypes := #[40, 40] }) rfl ?_; refine wpList_append_own _ rfl _ _ 40 rfl W7.heap.size 9 i9 _ 1 16 Yba.underlying40 hi9 hz9 hs9 hy9 rfl (by decide) _ _ _ rfl (HX.out.nm.alloc _) ⟨wr.heap.size, 0, none⟩ 1 1 [.string nm] rfl rfl (cell_one_new _ _ _) (by simp; rfl) (by unfold maxLen; omega) (by omega) (by have := HX.out.bel.size; simp; omega) ?_))
                          intro s' w1 hown1 hgr1 _
                          have hp1 := HX.out.pl1 hgr1
                          have HOWN1 := hide hown1
                          have HGR1 := hide hgr1
                          have HP1 := hide hp1
                          clear hown1 hgr1 hp1
                          go_wp2_with (refine at_op (.call { callee := .builtin .append, args := #[.tmp 187, .tmp 189], argTypes := #[23, 23] }) rfl ?_; refine wpList_append_own _ rfl _ _ 23 rfl W7.heap.size 3 i3 _ 1 8 Yba.underlying23 hi3 hz3 hs3 hy3 rfl (by decide) _ _ _ rfl (HP1.out.1.alloc _) ⟨w1.heap.size, 0, none⟩ 1 1 [.int .i64 gv] rfl rfl (cell_one_new _ _ _) (by simp; rfl) (by unfold maxLen; omega) (by omega) (by have := HP1.out.2; simp; omega) ?_)
                          intro t' w2 hown2 hgr2 _
                          have HR : Hid (Kn W7 w2 fst s' t' (KL kb L (k + 1))) := by
                            rw [KL_keep (by rw [HNM.out]; exact HKT.out), HNM.out]
                            exact HX.out.add HOWN1.out HGR1.out (by unfold plV; rw [HGV.out]; exact hown2) hgr2
                          clear hown2 hgr2 HOWN1 HGR1 HP1 HX
                          go_wp2_with fail
                          go_roundw
                          case rel => exact ⟨_, _, k + 1, rfl, rfl, by omega, by go_num, HR⟩
                          case measure => simp [intOf]; omega
                  · have hk2 : ¬ (k : Int) < (n1 : Int) := by omega
                    have HR : Hid (Kn W7 wr fst sv tv l) := by rw [← HLK.out, show n1 = k by omega]; exact HX.out
                    go_wp2_with fail
                    go_meet
                    case rel => exact HR.out
              case rest =>
                as_aux_lemma =>
                obtain ⟨ka, kc, pa, pc, rfl, rfl, hkn⟩ := hcut.open
                obtain ⟨W8, hW8⟩ : ∃ W8, W8 = wc := ⟨_, rfl⟩
                subst hW8
                have HKN := hide hkn
                have HB8 := hide (HB7.out.trans (hcut.bel.mono HB7.out.size))
                have hres8 : ∃ q, Srt (plF fst l) q 0 l.length ∧ Re (fun i => i) q 0 l.length ∧ (l.length = 0 ∨ ∃ g, a7 = some ⟨g, 0, none⟩ ∧ Pm W6.heap.size W8 g l.length f (nmF l) (plF fst l) q) := by
                  rcases HRES.out with ⟨h0, _⟩ | ⟨_, g, q, hg, hs, hr, hP⟩
                  · rw [h0]
                    exact ⟨fun i => i, fun i j h1 h2 h3 => absurd h3 (Nat.not_lt_zero _), Re.refl _ _ _, .inl rfl⟩
                  · exact ⟨q, hs, hr, .inr ⟨g, hg, hP.of_block (hcut.bel.block _ hP.row.lt)⟩⟩
                obtain ⟨q, hqs, hqr, hqp⟩ := hres8
                have HQS := hide hqs
                have HQR := hide hqr
                have HQP := hide hqp
                have hnil : ∀ w, (binOp .eql 38 (.slice a7 l.length c7) (.slice none 0 0)).run Yba.prog w = .ok (.bool (decide (l.length = 0))) w := by
                  have h := eqlNil Yba.underlying38 a7 l.length c7
                  rcases HRES.out with ⟨h0, ha⟩ | ⟨hpos, g, q, hg, _⟩
                  · rw [ha] at h ⊢
                    rw [h0] at h ⊢
                    exact h
                  · rw [hg] at h ⊢
                    rw [decide_eq_false (by omega)]
                    exact h
                clear hkn hqs hqr hqp hcut HB7 HRES
                obtain ⟨r, hr⟩ : ∃ r, l.length = r := ⟨_, rfl⟩
                rw [hr] at HKN HQS HQR HQP hnil hll
                rw [hr]
                have HRL := hide hr
                clear hr
                go_upto_region 47 with fail
                go_cut [204] (fun c W => c = .bool false ∧ W = W8)
                case first =>
                  as_aux_lemma =>
                  by_cases h0 : r = 0
                  · subst h0
                    go_wp2_with fail
                    go_meet
                    case rel => exact ⟨rfl, rfl⟩
                  · have hd : decide (r = 0) = false := decide_eq_false h0
                    rw [hd] at hnil
                    have h0i : ¬ (r : Int) = 0 := by omega
                    have h0b : ((r : Int) == 0) = false := beq_eq_false_iff_ne.2 h0i
                    go_wp2_with fail
                    go_meet
                    case rel => exact ⟨rfl, rfl⟩
                case rest =>
                  as_aux_lemma =>
                  obtain ⟨rfl, hwc⟩ := hcut
                  obtain rfl := hwc.symm
                  clear hnil
                  obtain ⟨i4, hi4, hz4, hs4, hy4⟩ := info_parts info4'
                  go_wp2_with (at_make; refine wpList_make_full _ rfl _ _ _ rfl W8.heap.size 4 i4 _ 1 Yba.underlying43 hi4 hz4 hs4 _ _ _ _ r rfl rfl (by rfl) (by rfl) (by rw [hy4]; omega) (by unfold maxLen; omega) (Nat.le_refl _) ?_)
                  intro W9 hown9 hgrow9
                  have hrb9 : Rb W8.heap.size 4 1 W9 W8.heap.size r _ := Rb.made (z := #[.bool false]) rfl (by omega) (by rw [Nat.mul_one]; exact hown9)
                  have hb9 : Below W8.heap.size W8 W9 := (Below.refl _ _).grown hgrow9 (Nat.le_refl _) (by simp)
                  have HX9 : Hid (Below W8.heap.size W8 W9 ∧ Us W8.heap.size W9 r q 0) := ⟨hb9, hrb9.congr fun j hj => rfl⟩
                  clear hown9 hgrow9 hrb9 hb9 hi4 hz4 hs4 hy4
                  obtain ⟨U, hU⟩ : ∃ U, W8.heap.size = U := ⟨_, rfl⟩
                  have HU := hide hU
                  rw [hU] at HX9
                  rw [hU]
                  clear hU
                  go_upto_block 10 with fail
                  go_cut [39] (fun s W => Below U W8 W)
                  case first =>
                    as_aux_lemma =>
                    go_wp2_with fail
                    go_loopw [39] (fun s W => ∃ j : Nat, j ≤ r ∧ s = .int .i64 j ∧ Hid (Below U W8 W ∧ Us U W r q j)) (fun s _ => r - (intOf s).toNat)
                    case atStart => exact ⟨0, by omega, rfl, HX9.out⟩
                    case round =>
                      clear HX9
                      obtain ⟨j, hj, rfl, HX⟩ := hrel
                      obtain ⟨V, hV⟩ : ∃ V, V = wr := ⟨_, rfl⟩
                      subst hV
                      by_cases hlt : j < r
                      · have bj : (j : Int) < (r : Int) := by omega
                        obtain ⟨g1, g2, rfl, rfl, l1, l2, hcl⟩ := HKN.out.resolve_left (by omega)
                        obtain ⟨g7, rfl, hP⟩ := HQP.out.resolve_left (by omega)
                        rw [HU.out] at l1 l2
                        have HCL : Hid (∀ x, x < r → V.cell? ⟨g1, x, none⟩ = some (.string (nmF l x)) ∧ V.cell? ⟨g2, x, none⟩ = some (.int .i64 (plF fst l x))) := fun x hx => ⟨by rw [HX.out.1.cell (p := ⟨g1, x, none⟩) l1]; exact (hcl x hx).1, by rw [HX.out.1.cell (p := ⟨g2, x, none⟩) l2]; exact (hcl x hx).2⟩
                        have h7lt : g7 < U := by rw [← HU.out]; exact hP.row.lt
                        have HP7 := hide (hP.of_block (HX.out.1.block g7 h7lt))
                        have HUS := hide HX.out.2
                        have HBX := hide HX.out.1
                        have hUlt := HX.out.2.lt
                        clear hP hcl HX HKN HQP
                        go_upto_block 12 with fail
                        go_cut [40] (fun s W => s = .int .i64 (q j) ∧ Below V.heap.size V W)
                        case first =>
                          as_aux_lemma =>
                          go_wp2_with fail
                          go_loopw [40, 41] (fun b s W => ∃ (bv : Int) (i : Nat), i ≤ r ∧ b = .int .i64 bv ∧ s = .int .i64 i ∧ Hid (Best (plF fst l) (usR q j) i bv ∧ Below V.heap.size V W)) (fun _ s _ => r - (intOf s).toNat)
                          case atStart => exact ⟨-1, 0, by omega, rfl, rfl, Best.start _ _, Below.refl _ _⟩
                          case round =>
                            obtain ⟨bv, i, hi, rfl, rfl, HY⟩ := hrel
                            by_cases hit : i < r
                            · have bi : (i : Int) < (r : Int) := by omega
                              have hc := (HUS.out.later HY.out.2).cell hit
                              have hp : wr.cell? ⟨g2, i, none⟩ = some (.int .i64 (plF fst l i)) := by rw [HY.out.2.cell (p := ⟨g2, i, none⟩) (by show g2 < _; omega)]; exact (HCL.out i hit).2
                              obtain ⟨pi, hpi⟩ : ∃ pi, plF fst l i = pi := ⟨_, rfl⟩
                              rw [hpi] at hp
                              have HPI := hide hpi
                              clear hpi
                              obtain ⟨us, hus⟩ : ∃ us, usR q j i = us := ⟨_, rfl⟩
                              rw [hus] at hc
                              cases us with
                              | true =>
                                have HR : Hid (Best (plF fst l) (usR q j) (i + 1) bv ∧ Below V.heap.size V wr) := ⟨HY.out.1.used hus, HY.out.2⟩
                                clear hus HY
                                go_wp2_with fail
                                go_quiet (fail)
                                go_wp2_with fail
                                go_roundw
                                case rel => exact ⟨bv, i + 1, by omega, rfl, by go_num, HR.out.1, below_drewN' HR.out.2 _⟩
                                case measure => simp [intOf]; omega
                              | false =>
                                rcases HY.out.1 with ⟨hb1, _⟩ | ⟨c, hb1, hci, _⟩
                                · subst hb1
                                  have HR : Hid (Best (plF fst l) (usR q j) (i + 1) (i : Int) ∧ Below V.heap.size V wr) := ⟨HY.out.1.new hus, HY.out.2⟩
                                  clear hus HY
                                  go_wp2_with fail
                                  go_quiet (fail)
                                  go_wp2_with fail
                                  go_roundw
                                  case rel => exact ⟨i, i + 1, by omega, rfl, by go_num, HR.out.1, below_drewN' HR.out.2 _⟩
                                  case measure => simp [intOf]; omega
                                · subst hb1
                                  have hpc : wr.cell? ⟨g2, c, none⟩ = some (.int .i64 (plF fst l c)) := by rw [HY.out.2.cell (p := ⟨g2, c, none⟩) (by show g2 < _; omega)]; exact (HCL.out c (by omega)).2
                                  obtain ⟨pc', hpc'⟩ : ∃ pi, plF fst l c = pi := ⟨_, rfl⟩
                                  rw [hpc'] at hpc
                                  have bc : (c : Int) < (r : Int) := by omega
                                  have hd : decide ((c : Int) < 0) = false := decide_eq_false (by omega)
                                  by_cases hle : pi < pc'
                                  · have HR : Hid (Best (plF fst l) (usR q j) (i + 1) (i : Int) ∧ Below V.heap.size V wr) := ⟨HY.out.1.less hus (by rw [HPI.out, hpc']; exact hle), HY.out.2⟩
                                    clear hus HY hpc'
                                    go_wp2_with fail
                                    go_quiet (fail)
                                    go_wp2_with fail
                                    go_roundw
                                    case rel => exact ⟨i, i + 1, by omega, rfl, by go_num, HR.out.1, below_drewN' HR.out.2 _⟩
                                    case measure => simp [intOf]; omega
                                  · have HR : Hid (Best (plF fst l) (usR q j) (i + 1) (c : Int) ∧ Below V.heap.size V wr) := ⟨HY.out.1.keep (by rw [HPI.out, hpc']; exact hle), HY.out.2⟩
                                    have hde : decide (pi < pc') = false := decide_eq_false hle
                                    clear hus HY hpc'
                                    go_wp2_with fail
                                    go_quiet (fail)
                                    go_wp2_with fail
                                    go_roundw
                                    case rel => exact ⟨c, i + 1, by omega, rfl, by go_num, HR.out.1, below_drewN' HR.out.2 _⟩
                                    case measure => simp [intOf]; omega
                            · have hk2 : ¬ (i : Int) < (r : Int) := by omega
                              have hir : i = r := by omega
                              have HR : Hid (bv = (q j : Int) ∧ Below V.heap.size V wr) := ⟨Best.last HQS.out HQR.out hlt (hir ▸ HY.out.1), HY.out.2⟩
                              clear hir
                              go_wp2_with fail
                              go_meet
                              case rel => exact ⟨by rw [HR.out.1], HR.out.2⟩
                        case rest =>
                          as_aux_lemma =>
                          obtain ⟨rfl, hcb⟩ := hcut
                          obtain ⟨V2, hV2⟩ : ∃ V2, V2 = wc := ⟨_, rfl⟩
                          subst hV2
                          have hqr : q j < r := HQR.out.range hlt
                          obtain ⟨t, ht⟩ : ∃ t, q j = t := ⟨_, rfl⟩
                          rw [ht] at hqr
                          rw [ht]
                          have bq : (t : Int) < (r : Int) := by omega
                          have hfr := (HUS.out.later hcb).frozen t
                          have hcu := (HUS.out.later hcb).cell hqr
                          have HUS3 := hide ((HUS.out.later hcb).use ht hqr)
                          have hbv : Below U W8 V2 := HBX.out.trans (hcb.mono (by omega))
                          have HBX3 := hide (Us.set_below (t := t) (v := .bool true) hbv)
                          have HN3 : Hid ((V2.setCell ⟨U, t, none⟩ (.bool true)).cell? ⟨g1, t, none⟩ = some (.string (nmF l t)) ∧ (V2.setCell ⟨U, t, none⟩ (.bool true)).cell? ⟨g2, t, none⟩ = some (.int .i64 (plF fst l t))) := ⟨by rw [mark_cell (by omega), hcb.cell (p := ⟨g1, t, none⟩) (by show g1 < _; omega)]; exact (HCL.out t hqr).1, by rw [mark_cell (by omega), hcb.cell (p := ⟨g2, t, none⟩) (by show g2 < _; omega)]; exact (HCL.out t hqr).2⟩
                          have HP3 := hide (HP7.out.of_block ((mark_block (W := V2) (U := U) (t := t) (v := .bool true) (g := g7) (by omega)).trans (hcb.block g7 (by omega))))
                          have HT := hide ht
                          clear ht hcb hbv HUS HBX HCL HP7
                          go_upto_region 60 with fail
                          obtain ⟨V3, hV3⟩ : ∃ V3, V2.setCell ⟨U, t, none⟩ (.bool true) = V3 := ⟨_, rfl⟩
                          rw [hV3] at HUS3 HBX3 HN3 HP3
                          rw [hV3]
                          clear hV3 hfr hcu
                          obtain ⟨c0, c1, c2, c3, c4, c5, c6⟩ := HP3.out.at hlt
                          rw [HT.out] at c1 c6
                          obtain ⟨nt, hnt⟩ : ∃ nt, nmF l t = nt := ⟨_, rfl⟩
                          obtain ⟨pt, hpt⟩ : ∃ pt, plF fst l t = pt := ⟨_, rfl⟩
                          rw [hnt] at c1 HN3
                          rw [hpt] at c6 HN3
                          clear hnt hpt
                          go_upto_region 61 with fail
                          have hbA : Below V3.heap.size V3 (V3.alloc (Obj.cells #[Value.string f, Value.string nt, Value.string ByteArray.empty, Value.string ByteArray.empty, Value.string ByteArray.empty, Value.int IntKind.i64 0, Value.int IntKind.i64 pt] 47)) := (Below.refl _ _).alloc (Nat.le_refl _) _
                          have hV3U : U < V3.heap.size := HUS3.out.lt
                          have e0 := (hbA.cell (p := ⟨g1, t, none⟩) (by show g1 < _; omega)).trans HN3.out.1
                          have e1 := (hbA.cell (p := ⟨g2, t, none⟩) (by show g2 < _; omega)).trans HN3.out.2
                          have hrow := heap_alloc_new V3 (Obj.cells #[Value.string f, Value.string nt, Value.string ByteArray.empty, Value.string ByteArray.empty, Value.string ByteArray.empty, Value.int IntKind.i64 0, Value.int IntKind.i64 pt] 47)
                          have d0 := cell_of_row _ _ 0 _ _ _ hrow
                          have d1 := cell_of_row _ _ 1 _ _ _ hrow
                          have d2 := cell_of_row _ _ 2 _ _ _ hrow
                          have d3 := cell_of_row _ _ 3 _ _ _ hrow
                          have d4 := cell_of_row _ _ 4 _ _ _ hrow
                          have d5 := cell_of_row _ _ 5 _ _ _ hrow
                          have d6 := cell_of_row _ _ 6 _ _ _ hrow
                          simp only [List.getElem?_toArray, List.getElem?_cons_zero, List.getElem?_cons_succ] at d0 d1 d2 d3 d4 d5 d6
                          have HR : Hid (Below U W8 (V3.alloc (Obj.cells #[Value.string f, Value.string nt, Value.string ByteArray.empty, Value.string ByteArray.empty, Value.string ByteArray.empty, Value.int IntKind.i64 0, Value.int IntKind.i64 pt] 47)) ∧ Us U (V3.alloc (Obj.cells #[Value.string f, Value.string nt, Value.string ByteArray.empty, Value.string ByteArray.empty, Value.string ByteArray.empty, Value.int IntKind.i64 0, Value.int IntKind.i64 pt] 47)) r q (j + 1)) := ⟨HBX3.out.trans (hbA.mono (by omega)), HUS3.out.later hbA⟩
                          clear hrow hbA c0 c1 c2 c3 c4 c5 c6 HN3 HP3 HBX3 HUS3
                          generalize V3.alloc (Obj.cells #[Value.string f, Value.string nt, Value.string ByteArray.empty, Value.string ByteArray.empty, Value.string ByteArray.empty, Value.int IntKind.i64 0, Value.int IntKind.i64 pt] 47) = V4 at *
                          generalize V3.heap.size = T at *
                          have hn31 : ∀ w, (binOp .neq 31 (.agg #[.string ByteArray.empty, .string ByteArray.empty, .int .i64 0]) (.agg #[.string ⟨#[]⟩, .string ⟨#[]⟩, .int .i64 0])).run Yba.prog w = .ok (.bool false) w := neq31
                          go_quiet (fail)
                          have HR5 : Hid (Below U W8 (V4.drewN nq) ∧ Us U (V4.drewN nq) r q (j + 1)) := ⟨below_drewN' HR.out.1 _, HR.out.2.later (below_drewN' (Below.refl _ _) _)⟩
                          clear HR d0 d1 d2 d3 d4 d5 d6 e0 e1 hn31
                          generalize V4.drewN nq = V5 at *
                          go_wp2_with fail
                          go_roundw
                          case rel => exact ⟨j + 1, by omega, by go_num, HR5⟩
                          case measure => simp [intOf]; omega
                      · have hk2 : ¬ (j : Int) < (r : Int) := by omega
                        have HR := hide HX.out.1
                        go_wp2_with fail
                        go_meet
                        case rel => exact HR.out
                  case rest =>
                    as_aux_lemma =>
                    have hbz : Below W6.heap.size W6 wc := HB8.out.trans ((show Below W8.heap.size W8 wc by rw [HU.out]; exact hcut).mono HB8.out.size)
                    have hbw : Below w.heap.size w wc := HS6.out.bel.trans (hbz.mono HS6.out.bel.size)
                    have HEQ := hide (equal_any w.heap.size W5.heap.size wc (some ⟨Wm.heap.size, 0, none⟩) a6 n1 n1 c6 f L (.inr ⟨_, rfl, HRB6.out.below hbz HRB6.out.lt⟩) (HRS6.out.below hbz) (by omega))
                    have HBW := hide hbw
                    clear hbz hbw hcut
                    go_wp2_with (go_at_call 9; refine HEQ.out.mono ?_; rintro e W10 ⟨rfl, hb10⟩; have HB10 := hide (HBW.out.trans (hb10.mono HBW.out.size)); clear hb10)
                    go_ret
                    exact ⟨rfl, HB10.out⟩
end Go.Proofs.Ybulkedom
