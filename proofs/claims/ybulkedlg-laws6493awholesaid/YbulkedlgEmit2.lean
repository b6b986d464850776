import Derived.Test.YbulkedlgEmit
namespace Go.Proofs.Ybulkedlg
open Go.RowKit
set_option linter.unusedVariables false
attribute [local go_sem ↓] Go.wp_at_zero Go.wp_at_succ

theorem Bw.put3 {B T : Nat} {w : World} {v : Value} {l : List UInt8} {acc n : Int} {plain : Bool} (h : Bw B T w v l acc n plain) (m : Int) : Bw B T (w.setCell ⟨T, 3, none⟩ (.int .i64 m)) v l acc m plain ∧ Below B w (w.setCell ⟨T, 3, none⟩ (.int .i64 m)) := by
  refine ⟨⟨h.blk.put 3 _, ?_, h.hB⟩, (Below.refl _ _).setCell h.hB _⟩
  refine ⟨h.own.1, ?_⟩
  have hne := h.ne
  rcases h.own.2 with h' | ⟨g, cap, cur, rfl, h1, h2, r⟩
  · exact .inl h'
  · refine .inr ⟨g, cap, cur, rfl, h1, ?_, r⟩
    rw [Below.heap_setCell _ _ _ _ (fun e => hne (by simp [Value.ownBlock]; exact e.symm))]
    exact h2

theorem Bw.put2 {B T : Nat} {w : World} {v : Value} {l : List UInt8} {acc n : Int} {plain : Bool} (h : Bw B T w v l acc n plain) (m : Int) : Bw B T (w.setCell ⟨T, 2, none⟩ (.int .u64 m)) v l m n plain ∧ Below B w (w.setCell ⟨T, 2, none⟩ (.int .u64 m)) := by
  refine ⟨⟨h.blk.put 2 _, ?_, h.hB⟩, (Below.refl _ _).setCell h.hB _⟩
  refine ⟨h.own.1, ?_⟩
  have hne := h.ne
  rcases h.own.2 with h' | ⟨g, cap, cur, rfl, h1, h2, r⟩
  · exact .inl h'
  · refine .inr ⟨g, cap, cur, rfl, h1, ?_, r⟩
    rw [Below.heap_setCell _ _ _ _ (fun e => hne (by simp [Value.ownBlock]; exact e.symm))]
    exact h2

theorem Bw.drewN {B T : Nat} {w : World} {v : Value} {l : List UInt8} {acc n : Int} {plain : Bool} (h : Bw B T w v l acc n plain) (q : Nat) : Bw B T (w.drewN q) v l acc n plain := ⟨h.blk, h.own, h.hB⟩

/-- The new slice laid into the field. -/
theorem Bw.putBuf {B T : Nat} {w w1 : World} {v v' : Value} {l' : List UInt8} {acc n : Int} {plain : Bool} (hB : B ≤ T) (hb : BwB T w1 v acc n plain) (hown : w1.ownsRow B 5 1 v' l'.length (bs l')) (hbel : Below B w w1) :
    Bw B T (w1.setCell ⟨T, 1, none⟩ v') v' l' acc n plain ∧ Below B w (w1.setCell ⟨T, 1, none⟩ v') ∧ w1.cell? ⟨T, 1, none⟩ = some v ∧ w1.frozen? ⟨T, 1, none⟩ = false := by
  refine ⟨⟨hb.put 1 v', ?_, hB⟩, hbel.setCell hB v', hb.cell 1, hb.free 1⟩
  refine ⟨hown.1, ?_⟩
  rcases hown.2 with h' | ⟨g, cap, cur, rfl, h1, h2, r⟩
  · exact .inl h'
  · refine .inr ⟨g, cap, cur, rfl, h1, ?_, r⟩
    rw [Below.heap_setCell _ _ _ _ (fun e => by
      subst e
      unfold BwB at hb
      rw [h2] at hb
      simp at hb)]
    exact h2

theorem k1_of {T : Nat} {w : World} {v : Value} {acc n : Int} {plain : Bool} (h : BwB T w v acc n plain) : w.cell? ⟨T, 1, none⟩ = some v := h.cell 1
theorem kz_of {T : Nat} {w : World} {v : Value} {acc n : Int} {plain : Bool} (h : BwB T w v acc n plain) : w.frozen? ⟨T, 1, none⟩ = false := h.free 1

theorem stuff_len (l q : List UInt8) (hl : l.length ≤ 1500000) (hq : q.length ≤ 4) : (l ++ q.flatMap stuff).length ≤ 2000000 := by
  have : ∀ q : List UInt8, (q.flatMap stuff).length ≤ 2 * q.length := by
    intro q
    induction q with
    | nil => simp
    | cons c q ih =>
      rw [List.flatMap_cons, List.length_append, List.length_cons]
      have : (stuff c).length ≤ 2 := by unfold stuff; split <;> simp
      omega
  have := this q
  rw [List.length_append]; omega

/-- The word that emit moves. -/
def wordOf (acc m : Int) : Int := acc / 2 ^ min m.toNat 64 % 4294967296
theorem wordOf_bd (acc m : Int) : 0 ≤ wordOf acc m ∧ wordOf acc m ≤ 4294967295 := by unfold wordOf; omega

/-- What emit appends. -/
def emitted (plain : Bool) (x : Int) : List UInt8 := if !ffB x || plain then bytes4 x else (bytes4 x).flatMap stuff

set_option maxRecDepth 100000 in
set_option maxHeartbeats 2000000 in
theorem emit_any (B T : Nat) (w : World) (v : Value) (l : List UInt8) (acc n : Int) (plain : Bool) (ha0 : 0 ≤ acc) (ha1 : acc ≤ 18446744073709551615) (hn : 32 ≤ n) (hn1 : n ≤ 9223372036854775807) (h : Bw B T w v l acc n plain) (hl : l.length ≤ 1500000) :
    Calls Yba.prog 15 #[.pointer (some ⟨T, 0, none⟩)] w fun e w' => e = .returned (.tuple #[]) ∧ ∃ v', Bw B T w' v' (l ++ emitted plain (wordOf acc (n - 32))) acc (n - 32) plain ∧ Below B w w' := by
  have H := hide (h.put3 (n - 32)).1
  have HB := hide (h.put3 (n - 32)).2
  have f1 := h.blk.cell 1
  have f2 := h.blk.cell 2
  have f3 := h.blk.cell 3
  have f4 := h.blk.cell 4
  have z3 := h.blk.free 3
  simp only [List.getElem?_toArray, List.getElem?_cons_zero, List.getElem?_cons_succ] at f1 f2 f3 f4
  have hT := h.blk.lt
  have hB := h.hB
  have hbd := wordOf_bd acc (n - 32)
  have HW : Hid (acc / 2 ^ min (n - 32).toNat 64 % 4294967296 = wordOf acc (n - 32)) := rfl
  clear h
  go_enter Yba.func15, Yba.ntmps15
  go_wp2_with fail
  go_quiet (fail)
  go_wp2_with fail
  rw [HW.out]
  obtain ⟨x, hx⟩ : ∃ x, wordOf acc (n - 32) = x := ⟨_, rfl⟩
  rw [hx] at hbd ⊢
  have HX := hide hx
  clear HW hx
  refine (holdsFF_any x _ hbd.1 hbd.2).mono ?_
  rintro e w1 ⟨rfl, hw1⟩
  have H1 := hide (H.out.drewN nq)
  have HB1 := hide (below_drewN HB.out nq)
  rw [← hw1] at H1 HB1
  have g1 := H1.out.blk.cell 1
  have g4 := H1.out.blk.cell 4
  simp only [List.getElem?_toArray, List.getElem?_cons_zero, List.getElem?_cons_succ] at g1 g4
  have hT1 := H1.out.blk.lt
  clear H HB hw1 f1 f2 f3 f4 z3 hT
  by_cases e1 : (!ffB x || plain) = true
  · have he : Hid (emitted plain x = bytes4 x) := by show _ = _; unfold emitted; rw [if_pos e1]
    have hfp : (ffB x = false) ∨ (ffB x = true ∧ plain = true) := by
      cases hf : ffB x <;> cases hp : plain <;> simp [hf, hp] at e1 ⊢
    clear e1
    rcases hfp with ef | ⟨ef, rfl⟩
    all_goals
      rw [ef]
      clear ef
      go_wp2_with fail
      go_region_with
        ((go_at_call 17; refine (AppendUint32_any B T _ v l acc (n - 32) _ x hbd.1 hbd.2 (by exact H1.out.drewN 1) (by omega)).mono ?_; rintro e w2 ⟨gg, cc, rfl, hb2, hbel2, hown2⟩; have k1 := k1_of hb2; have kz := kz_of hb2))
      all_goals
        have hlen : (l ++ bytes4 x).length = l.length + 4 := by simp [bytes4]
        have HF := hide (Bw.putBuf (l' := l ++ bytes4 x) hB hb2 (by rw [hlen]; exact hown2) (HB1.out.drew.trans hbel2))
        go_wp2
        exact bodyPost_ret (v := .tuple #[]) (by simp [results, Yba.results15, go_sem]) rfl ⟨rfl, _, by rw [HX.out, he.out]; exact HF.out.1, HF.out.2.1⟩
  · have hf : ffB x = true := by cases hf : ffB x <;> simp [hf] at e1 ⊢
    have hp : plain = false := by cases plain <;> simp at e1 ⊢
    have he : Hid (emitted plain x = (bytes4 x).flatMap stuff) := by show _ = _; unfold emitted; rw [if_neg e1]
    subst hp
    rw [hf]
    clear e1 hf
    have hb0 : ((UInt8.ofNat (x / 16777216).toNat).toNat : Int) = x / 16777216 := byte_back _ (by omega) (by omega)
    have hb1 : ((UInt8.ofNat (x / 65536 % 256).toNat).toNat : Int) = x / 65536 % 256 := byte_back _ (by omega) (by omega)
    have hb2 : ((UInt8.ofNat (x / 256 % 256).toNat).toNat : Int) = x / 256 % 256 := byte_back _ (by omega) (by omega)
    have hb3 : ((UInt8.ofNat (x % 256).toNat).toNat : Int) = x % 256 := byte_back _ (by omega) (by omega)
    have Q0 := hide hb0
    have Q1 := hide hb1
    have Q2 := hide hb2
    have Q3 := hide hb3
    clear hb0 hb1 hb2 hb3
    go_wp2_with fail
    go_loopw [3] (fun s W => ∃ (k : Nat) (v' : Value), k ≤ 4 ∧ s = .int .i64 (24 - 8 * (k : Int)) ∧ Bw B T W v' (l ++ ((bytes4 x).take k).flatMap stuff) acc (n - 32) false ∧ Below B w W) (fun s _ => (32 + intOf s).toNat)
    case atStart => exact ⟨0, v, by omega, rfl, by simpa using H1.out, HB1.out⟩
    case round =>
      clear g1 g4 H1 HB1 hT1
      obtain ⟨k, v', hk, rfl, hbw, hbel⟩ := hrel
      have H := hide hbw
      have HB := hide hbel
      have hT := hbw.blk.lt
      clear hbw hbel
      match k, hk with
      | 0, _ =>
        go_wp2_with fail
        rw [← Q0.out]
        refine (appendByte_any B T _ v' _ acc _ false _ H.out (stuff_len l _ hl (by simp [bytes4]))).mono ?_
        rintro e w2 ⟨rfl, v2, hbw2, hbel2⟩
        have H2 := hide hbw2
        have HB2 := hide (HB.out.trans hbel2)
        clear hbw2 hbel2
        go_wp2
        go_roundw
        case rel => exact ⟨1, v2, by omega, by go_num, by have := H2.out; simpa [bytes4, List.append_assoc] using this, HB2.out⟩
        case measure => simp [intOf]
      | 1, _ =>
        go_wp2_with fail
        rw [← Q1.out]
        refine (appendByte_any B T _ v' _ acc _ false _ H.out (stuff_len l _ hl (by simp [bytes4]))).mono ?_
        rintro e w2 ⟨rfl, v2, hbw2, hbel2⟩
        have H2 := hide hbw2
        have HB2 := hide (HB.out.trans hbel2)
        clear hbw2 hbel2
        go_wp2
        go_roundw
        case rel => exact ⟨2, v2, by omega, by go_num, by have := H2.out; simpa [bytes4, List.append_assoc] using this, HB2.out⟩
        case measure => simp [intOf]
      | 2, _ =>
        go_wp2_with fail
        rw [← Q2.out]
        refine (appendByte_any B T _ v' _ acc _ false _ H.out (stuff_len l _ hl (by simp [bytes4]))).mono ?_
        rintro e w2 ⟨rfl, v2, hbw2, hbel2⟩
        have H2 := hide hbw2
        have HB2 := hide (HB.out.trans hbel2)
        clear hbw2 hbel2
        go_wp2
        go_roundw
        case rel => exact ⟨3, v2, by omega, by go_num, by have := H2.out; simpa [bytes4, List.append_assoc] using this, HB2.out⟩
        case measure => simp [intOf]
      | 3, _ =>
        go_wp2_with fail
        rw [← Q3.out]
        refine (appendByte_any B T _ v' _ acc _ false _ H.out (stuff_len l _ hl (by simp [bytes4]))).mono ?_
        rintro e w2 ⟨rfl, v2, hbw2, hbel2⟩
        have H2 := hide hbw2
        have HB2 := hide (HB.out.trans hbel2)
        clear hbw2 hbel2
        go_wp2
        go_roundw
        case rel => exact ⟨4, v2, by omega, by go_num, by have := H2.out; simpa [bytes4, List.append_assoc] using this, HB2.out⟩
        case measure => simp [intOf]
      | 4, _ =>
        go_wp2
        go_end0
        exact ⟨rfl, v', by rw [HX.out, he.out]; simpa [bytes4] using H.out, HB.out⟩
end Go.Proofs.Ybulkedlg
