import Derived.Test.YbulkednkModel
import Derived.Maps.Views
import Derived.WalkSmall
import Derived.Below
import Derived.Carry
import Derived.Laws.Tables
import Derived.Deep.DeepCutAuto
import Derived.Deep.CutBlock
namespace Go.Proofs.Ybulkednk
open Go.RowKit Go.Maps
open Go.MuLone
set_option linter.unusedVariables false

/-- A new link's block. -/
abbrev linkO (s : ByteArray) : Obj := Obj.cells #[Value.pointer none, Value.string s, Value.int IntKind.u64 0, Value.int IntKind.u64 0, Value.pointer none, Value.int IntKind.u8 0, Value.string { data := #[] }, Value.bool false, Value.bool false, Value.pointer none, Value.slice none 0 0, Value.chan none, Value.chan none, Value.chan none, Value.int IntKind.u32 0, Value.int IntKind.i32 0, Value.int IntKind.u32 0, Value.int IntKind.i64 0, Value.int IntKind.i32 0, Value.int IntKind.u32 0, Value.map none] 57

/-- The links as the law's loop lays them, behind k rounds. -/
def linksD (l : List ByteArray) (nb : Int) : Nat → DataW Nat
  | 0 => .map []
  | k + 1 => (linksD l nb k).put (.string (l.getD k ByteArray.empty).data.toList) (.lit (.bool (liveB nb k)))

theorem linksD_isMap (l : List ByteArray) (nb : Int) : ∀ k, IsMap (linksD l nb k)
  | 0 => isMap_empty
  | k + 1 => (linksD_isMap l nb k).put _ _

theorem linksD_at (l : List ByteArray) (nb : Int) (p : ByteArray) : ∀ k, k ≤ l.length → (linksD l nb k).atKey (.string p.data.toList) (.lit (.bool false)) = .lit (.bool ((marks l nb p k).1 && (marks l nb p k).2))
  | 0, _ => by simp [linksD, marks, DataW.atKey]
  | k + 1, h => by
    have hs : l[k]? = some (l.getD k ByteArray.empty) := by
      rw [List.getD_eq_getElem?_getD, List.getElem?_eq_getElem (by omega)]; rfl
    rw [linksD, marks, hs]
    generalize l.getD k ByteArray.empty = s
    by_cases e : s = p
    · subst e
      rw [atKey_put_same (linksD_isMap l nb k) (by simp [WideAt.IsKeyLit])]
      simp
    · rw [atKey_put_other (fun h' => e (WideShapes.bytes_inj (by simpa using h'.symm))), linksD_at l nb p k (by omega), if_neg (by simpa using e)]

/-- The lock taken and let go: the world reads as it did. -/
structure Nd (wr W : World) (T : Nat) (m : Value) : Prop where
  c0 : W.cell? ⟨T, 64, none⟩ = some (.int .i32 0)
  c2 : W.cell? ⟨T, 66, none⟩ = some m
  f0 : W.frozen? ⟨T, 64, none⟩ = false
  bel : Below T wr W
theorem Nd.made (wr : World) (arr : Array Value) (m : Value) (h0 : arr[64]? = some (.int .i32 0)) (h2 : arr[66]? = some m) : Nd wr (wr.alloc (.cells arr 135)) wr.heap.size m :=
  ⟨by rw [cell_of_row _ _ _ _ _ _ (heap_alloc_new wr _)]; exact h0, by rw [cell_of_row _ _ _ _ _ _ (heap_alloc_new wr _)]; exact h2, World.frozen?_alloc_new _ _ _ _, (Below.refl _ _).alloc (Nat.le_refl _) _⟩
theorem Nd.held {wr W : World} {T : Nat} {m : Value} (h : Nd wr W T m) : (W.setCell ⟨T, 64, none⟩ (.int .i32 1)).cell? ⟨T, 64, none⟩ = some (.int .i32 1) ∧ (W.setCell ⟨T, 64, none⟩ (.int .i32 1)).frozen? ⟨T, 64, none⟩ = false :=
  ⟨World.cell?_setCell_same _ _ _ h.c0, by simp [h.f0]⟩
theorem Nd.freed {wr W : World} {T : Nat} {m : Value} (h : Nd wr W T m) : Nd wr ((W.setCell ⟨T, 64, none⟩ (.int .i32 1)).setCell ⟨T, 64, none⟩ (.int .i32 0)) T m :=
  ⟨World.cell?_setCell_same _ _ _ h.held.1, by rw [World.cell?_setCell_other _ _ _ _ (by simp), World.cell?_setCell_other _ _ _ _ (by simp)]; exact h.c2, by simp [h.f0], (h.bel.setCell (Nat.le_refl _) _).setCell (Nat.le_refl _) _⟩

/-- What a new Node holds. -/
theorem node_built (m : Option Nat) : ∃ cells : Array Value, (∀ w, (Instr.build 135 #[(13, Value.map m)]).run Yba.prog w = .ok (.agg cells) w) ∧ cells.size = 185 ∧ cells[64]? = some (.int .i32 0) ∧ cells[66]? = some (.map m) := by
  have h : (Yba.prog.built 135 [(13, Value.map m)]).map (fun c => (c.size, c[64]?, c[66]?)) = some (185, some (.int .i32 0), some (.map m)) := by kernel_rfl
  cases hc : Yba.prog.built 135 [(13, Value.map m)] with
  | none => rw [hc] at h; simp at h
  | some c =>
    rw [hc] at h
    simp at h
    exact ⟨c, fun w => run_build w 135 _ c hc, h.1, h.2.1, h.2.2⟩

/-- 'T{..}' of a great struct: the value by its own fact. -/
theorem wpList_build_as {P : Program} {ops : Array Oper} {rest : List Oper} {o : Oper} {a : Act} {w : World} {Q : Exit → Act → World → Prop} (hg : o.guard = none) (t : TypeId) (parts : Array (Nat × Operand)) (ho : o.op = .build t parts)
    (vals : Array (Nat × Value)) (hv : (parts.toList.map fun (i, x) => (i, a.eval x)) = vals.toList) (cells : Array Value) (hrun : ∀ w, (Instr.build t vals).run P w = .ok (.agg cells) w)
    (h : wpList P ops Q rest (a.put o.dst (.agg cells)) w) : wpList P ops Q (o :: rest) a w :=
  wpList_plain hg fun K' hK' => by
    have hr : (Instr.build t (parts.map fun (i, x) => (i, a.eval x))).run P w = .ok (.agg cells) w := by
      have e : (parts.map fun (i, x) => (i, a.eval x)) = vals := by
        apply Array.toList_inj.1
        rw [Array.toList_map]; exact hv
      rw [e]; exact hrun w
    unfold Oper.wp execOp
    simp only [ho, Sem.run_bind, hr, Result.andThen_ok, Sem.run_pure]
    exact hK' _ _ h

theorem ownsMap_later {wr W : World} {b n T : Nat} {D : DataW Nat} (h : wr.ownsMap Yba.prog 9 ptrElem b n D) (hb : Below T wr W) (hT : b < T) : W.ownsMap Yba.prog 9 ptrElem b n D := by
  obtain ⟨es, clock, hb', F, hs, hD⟩ := h
  exact ⟨es, clock, by rw [hb.block b hT]; exact hb', F, hs, hD⟩

theorem bit_cases (nb : Int) (h0 : 0 ≤ nb) (h1 : nb ≤ 18446744073709551615) (k : Nat) : bits BinOp.and IntKind.u64 (nb / 2 ^ (k % 64)) 1 = 0 ∨ bits BinOp.and IntKind.u64 (nb / 2 ^ (k % 64)) 1 = 1 := by
  have hp : (0 : Int) < 2 ^ (k % 64) := Int.pow_pos (by omega)
  have ha : 0 ≤ nb / 2 ^ (k % 64) := Int.ediv_nonneg h0 (by omega)
  have hb : nb / 2 ^ (k % 64) ≤ nb := Int.ediv_le_self _ h0
  rw [and_one_u64 _ ha (by omega)]
  omega

set_option maxRecDepth 100000 in
set_option maxHeartbeats 4000000 in
theorem law_pos (x : Addr) (len cap : Nat) (l : List ByteArray) (nb sel : Int) (peer : ByteArray) (wc : World) (h0 : 0 ≤ nb) (h1 : nb ≤ 18446744073709551615) (hs0 : 0 ≤ sel) (hs1 : sel ≤ 255) (hp : peer.size ≤ maxLen) (hl : l.length = len) (hsz : ∀ s ∈ l, s.size ≤ maxLen) (hx : ∀ j s, l[j]? = some s → wc.cell? (x.add j) = some (.string s)) (hn : len ≤ 65536) (hpos : 0 < len) :
    Calls Yba.prog 3 #[.slice (some x) len cap, .int .u64 nb, .int .u8 sel, .string peer] wc fun e w' => e = .returned (.bool true) ∧ Below wc.heap.size wc w' := by
  have hmm := @run_makeMap Yba.prog
  have HX := hide hx
  obtain ⟨p, hps, hcase⟩ : ∃ p : ByteArray, p.size ≤ maxLen ∧ ((sel % 2 = 0 ∧ ∃ j : Nat, j < len ∧ sel / 2 % len = j ∧ wc.cell? (x.add j) = some (.string p)) ∨ (sel % 2 = 1 ∧ p = peer)) := by
    by_cases e : sel % 2 = 0
    · have hj0 : 0 ≤ sel / 2 % len := Int.emod_nonneg _ (by omega)
      have hj1 : sel / 2 % len < len := Int.emod_lt_of_pos _ (by omega)
      obtain ⟨j, hj⟩ : ∃ j : Nat, sel / 2 % len = j := ⟨(sel / 2 % len).toNat, by omega⟩
      obtain ⟨s, hs⟩ : ∃ s, l[j]? = some s := ⟨l[j]'(by omega), List.getElem?_eq_getElem (by omega)⟩
      exact ⟨s, hsz s (List.mem_of_getElem? hs), .inl ⟨e, j, by omega, hj, hx j s hs⟩⟩
    · exact ⟨peer, hp, .inr ⟨by omega, rfl⟩⟩
  clear hx
  rcases hcase with ⟨e, j, hj, hje, hc⟩ | ⟨e, rfl⟩
  all_goals
    go_enter Yba.func3, Yba.ntmps3
    go_wp2_with fail
    clear e
    try clear hje hc
    go_loopw [11] (fun i W => ∃ k : Nat, k ≤ len ∧ i = .int .i64 k ∧ W.ownsMap Yba.prog 9 ptrElem wc.heap.size k (linksD l nb k) ∧ Below wc.heap.size wc W) (fun i _ => len - (intOf i).toNat)
    case atStart => exact ⟨0, by omega, rfl, World.ownsMap_made _ _ _ _, (Below.refl _ _).alloc (Nat.le_refl _) _⟩
    case round =>
      obtain ⟨k, hk, rfl, hown, hbel⟩ := hrel
      by_cases hkl : k < len
      · obtain ⟨s, hs⟩ : ∃ s, l[k]? = some s := ⟨l[k]'(by omega), List.getElem?_eq_getElem (by omega)⟩
        have hc0 := HX.out k s hs
        have hc : wr.cell? (x.add k) = some (.string s) := by rw [hbel.cell (World.block_lt_of_cell? _ _ hc0)]; exact hc0
        have hkey := key9 s (hsz s (List.mem_of_getElem? hs))
        have hD : linksD l nb (k + 1) = (linksD l nb k).put (.string s.data.toList) (.lit (.bool (liveB nb k))) := by
          rw [linksD, List.getD_eq_getElem?_getD, hs]; rfl
        have HO := hide hown
        have HB := hide hbel
        have HD := hide hD
        have HK := hide hkey
        clear hown hbel hD hkey hs hc0
        rcases bit_cases nb h0 h1 k with hb | hb
        · have hlv : liveB nb k = true := by simp [liveB, hb]
          rw [hlv] at HD
          clear hlv
          have hlt := World.block_lt_of_cell? _ _ hc
          have hc2 : (wr.alloc (linkO s)).cell? (x.add k) = some (.string s) := by rw [Below.cell ((Below.refl wr.heap.size wr).alloc (Nat.le_refl _) (linkO s)) hlt]; exact hc
          obtain ⟨w2, hrun, hown2, hturn2⟩ := ((HO.out.alloc (linkO s)).drew).store (t := 24) (e := 26) law9 Yba.underlying24 (by unfold maxLen; omega) HK.out (val := .pointer (some ⟨wr.heap.size, 0, none⟩)) (d := .lit (.bool true)) (ps := []) rfl
          have HO1 := hide hown2
          have HB1 := hide (((HB.out.alloc HB.out.size (linkO s)).drew).grown hturn2.grown (by have := HB.out.size; simp; omega) (by simp))
          clear hown2 hturn2
          simp only [linkO] at hc2 hrun
          go_wp2_with fail
          go_region
          all_goals
            go_wp2_with fail
            go_roundw
            case rel => exact ⟨k + 1, by omega, by go_num, by rw [HD.out]; exact HO1.out, HB1.out⟩
            case measure => simp [intOf]; omega
        · have hlv : liveB nb k = false := by simp [liveB, hb]
          rw [hlv] at HD
          have HLV := hide hlv
          clear hlv
          go_wp2_with (at_mapUpdate; refine wpList_mapUpdate_in _ rfl _ _ _ 24 rfl 9 26 law9 Yba.underlying24 ptrElem wc.heap.size k (linksD l nb k) rfl HO.out (by unfold maxLen; omega) _ _ _ rfl rfl HK.out _ [] rfl ?_; intro w1 hown1 hturn1)
          have HO1 := hide hown1
          have HB1 := hide (HB.out.grown hturn1.grown HB.out.size (by simp))
          clear hown1 hturn1
          go_wp2_with fail
          go_roundw
          case rel => exact ⟨k + 1, by omega, by go_num, by rw [HD.out]; exact HO1.out, HB1.out⟩
          case measure => simp [intOf]; omega
      · have : k = len := by omega
        subst this
        have hlen := fun ty => hown.len (t := 24) Yba.underlying24 ty
        have HO := hide hown
        have HB := hide hbel
        have hlt := hown.lt
        clear hown hbel
        obtain ⟨cells, hbuild, hcs, hcell64, hcell66⟩ := node_built (some wc.heap.size)
        go_wp2_with (refine at_op (.build 135 #[(13, .tmp 71)]) rfl ?_; refine wpList_build_as rfl _ _ rfl #[(13, Value.map (some wc.heap.size))] rfl cells hbuild ?_)
        generalize hN : wr.alloc _ = W1
        have HN : Hid (Nd wr W1 wr.heap.size (.map (some wc.heap.size))) := by
          show Nd _ _ _ _
          rw [← hN]
          exact Nd.made wr _ _ hcell64 hcell66
        clear hN
        have hat := linksD_at l nb p k (by omega)
        refine (linked_any wr.heap.size wc.heap.size k _ p _ W1 HN.out.c0 HN.out.c2 HN.out.f0 (by omega) (ownsMap_later HO.out HN.out.bel hlt) hps hat).mono ?_
        rintro e W2 ⟨rfl, hW2⟩
        have HN2 : Hid (Nd wr W2 wr.heap.size (.map (some wc.heap.size))) := by
          show Nd _ _ _ _
          rw [hW2]
          exact HN.out.freed
        clear hW2 HN hat
        have HA2 : ArgS W2 (some x) k l := ⟨hl, hsz, .inr ⟨x, rfl, fun j s hs => by
          have hq := HX.out j s hs
          rw [((HB.out.trans (HN2.out.bel.mono HB.out.size))).cell (World.block_lt_of_cell? _ _ hq)]; exact hq⟩⟩
        have HM := hide (model_any (some x) k cap l nb p W2 h0 h1 HA2 hn)
        have hlen2 := fun ty => (ownsMap_later HO.out HN2.out.bel hlt).len (t := 24) Yba.underlying24 ty
        have c2 := HN2.out.c2
        clear HA2
        go_wp2_with fail
        refine HM.out.mono ?_
        rintro e W3 ⟨rfl, hW3⟩
        obtain rfl := hW3.symm
        clear HM
        generalize ((marks l nb p k).1 && (marks l nb p k).2) = r
        cases r
        all_goals
          go_wp2_with fail
          refine (try_free ⟨wr.heap.size, 64, none⟩ W2 HN2.out.c0 HN2.out.f0).mono ?_
          rintro e W4 ⟨rfl, hW4⟩
          obtain ⟨hh1, hh2⟩ := HN2.out.held
          rw [← hW4] at hh1 hh2
          have HB4 : Hid (Below wc.heap.size wc W4) := by
            show Below _ _ _
            rw [hW4]
            exact ((HB.out.trans (HN2.out.bel.mono HB.out.size))).setCell HB.out.size _
          clear hW4
          go_wp2_with fail
          refine (unlock_held muLib ⟨wr.heap.size, 64, none⟩ W4 hh1 hh2).mono ?_
          rintro e W5 ⟨rfl, hW5⟩
          have HB5 : Hid (Below wc.heap.size wc W5) := by
            show Below _ _ _
            rw [hW5]
            exact HB4.out.setCell HB.out.size _
          clear hW5
          go_wp2_with fail
          go_ret
          exact ⟨rfl, HB5.out⟩

set_option maxRecDepth 100000 in
set_option maxHeartbeats 4000000 in
theorem law_zero (cap : Nat) (nb sel : Int) (p : ByteArray) (wr : World) (h0 : 0 ≤ nb) (h1 : nb ≤ 18446744073709551615) (hs0 : 0 ≤ sel) (hs1 : sel ≤ 255) (hps : p.size ≤ maxLen) (a : Option Addr) :
    Calls Yba.prog 3 #[.slice a 0 cap, .int .u64 nb, .int .u8 sel, .string p] wr fun e w' => e = .returned (.bool true) ∧ Below wr.heap.size wr w' := by
  have hlen := fun (w : World) (ty : TypeId) => len_nil (P := Yba.prog) (w := w) (t := 24) (k := 9) (e := 26) Yba.underlying24 ty
  obtain ⟨cells, hbuild, hcs, hcell64, hcell66⟩ := node_built none
  by_cases e : sel % 2 = 0
  all_goals
    go_enter Yba.func3, Yba.ntmps3
    go_wp2_with fail
    go_loopw [11] (fun i W => i = .int .i64 0 ∧ W = wr) (fun _ _ => 0)
    case atStart => exact ⟨rfl, rfl⟩
    case round =>
      obtain ⟨rfl, rfl⟩ := hrel
      go_wp2_with (refine at_op (.build 135 #[(13, .tmp 71)]) rfl ?_; refine wpList_build_as rfl _ _ rfl #[(13, Value.map none)] rfl cells hbuild ?_)
      generalize hN : World.alloc _ _ = W1
      have HN : Hid (Nd wr W1 wr.heap.size (.map none)) := by
        show Nd _ _ _ _
        rw [← hN]
        exact Nd.made wr _ _ hcell64 hcell66
      clear hN
      refine (linked_nil wr.heap.size p W1 HN.out.c0 HN.out.c2 HN.out.f0 hps).mono ?_
      rintro e W2 ⟨rfl, hW2⟩
      have HN2 : Hid (Nd wr W2 wr.heap.size (.map none)) := by
        show Nd _ _ _ _
        rw [hW2]
        exact HN.out.freed
      clear hW2 HN
      have HM := hide (model_any a 0 cap [] nb p W2 h0 h1 ⟨rfl, by simp, by cases a with
        | none => exact .inl ⟨rfl, rfl⟩
        | some x => exact .inr ⟨x, rfl, by simp⟩⟩ (by omega))
      have c2 := HN2.out.c2
      go_wp2_with fail
      refine HM.out.mono ?_
      rintro e W3 ⟨rfl, hW3⟩
      obtain rfl := hW3.symm
      clear HM
      simp only [marks]
      go_wp2_with fail
      refine (try_free ⟨wr.heap.size, 64, none⟩ W2 HN2.out.c0 HN2.out.f0).mono ?_
      rintro e W4 ⟨rfl, hW4⟩
      obtain ⟨hh1, hh2⟩ := HN2.out.held
      rw [← hW4] at hh1 hh2
      have HB4 : Hid (Below wr.heap.size wr W4) := by
        show Below _ _ _
        rw [hW4]
        exact HN2.out.bel.setCell (Nat.le_refl _) _
      clear hW4
      go_wp2_with fail
      refine (unlock_held muLib ⟨wr.heap.size, 64, none⟩ W4 hh1 hh2).mono ?_
      rintro e W5 ⟨rfl, hW5⟩
      have HB5 : Hid (Below wr.heap.size wr W5) := by
        show Below _ _ _
        rw [hW5]
        exact HB4.out.setCell (Nat.le_refl _) _
      clear hW5
      go_wp2_with fail
      go_ret
      exact ⟨rfl, HB5.out⟩

/-- Behind every length. -/
theorem law_all (a : Option Addr) (len cap : Nat) (l : List ByteArray) (nb sel : Int) (peer : ByteArray) (w : World) (h0 : 0 ≤ nb) (h1 : nb ≤ 18446744073709551615) (hs0 : 0 ≤ sel) (hs1 : sel ≤ 255) (hp : peer.size ≤ maxLen) (hA : ArgS w a len l) :
    Calls Yba.prog 3 #[.slice a len cap, .int .u64 nb, .int .u8 sel, .string peer] w fun e w' => e = .returned (.bool true) ∧ Below w.heap.size w w' := by
  by_cases hn : len ≤ 65536
  · by_cases hz : len = 0
    · subst hz
      exact law_zero cap nb sel peer w h0 h1 hs0 hs1 hp a
    · obtain ⟨hl, hsz, ⟨_, h⟩ | ⟨x, rfl, hx⟩⟩ := hA
      · omega
      · exact law_pos x len cap l nb sel peer w h0 h1 hs0 hs1 hp hl hsz hx hn (by omega)
  · have hn' : 65536 < len := by omega
    clear hA
    go_enter Yba.func3, Yba.ntmps3
    go_wp2_with fail
    go_ret
    exact ⟨rfl, Below.refl _ _⟩
end Go.Proofs.Ybulkednk
