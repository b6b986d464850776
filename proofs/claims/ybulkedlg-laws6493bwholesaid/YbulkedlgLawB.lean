import Derived.Test.YbulkedlgConv
import Derived.Laws.Tables
import Derived.Deep.DeepCutAuto
import Derived.Deep.CutBlock
namespace Go.Proofs.Ybulkedlg
open Go.RowKit
set_option linter.unusedVariables false

/-- What a new scanEncoder holds. -/
theorem enc_built (a : Option Addr) (n c : Nat) : ∃ cells : Array Value, (∀ w, (Instr.build 56 #[(1, Value.slice a n c)]).run Yba.prog w = .ok (.agg cells) w) ∧ cells[5]? = some (.slice a n c) := by
  have h : (Yba.prog.built 56 [(1, Value.slice a n c)]).map (fun c => (c[5]?)) = some (some (.slice a n c)) := by kernel_rfl
  cases hc : Yba.prog.built 56 [(1, Value.slice a n c)] with
  | none => rw [hc] at h; simp at h
  | some c =>
    rw [hc] at h
    simp at h
    exact ⟨c, fun w => run_build w 56 _ c hc, h⟩

/-- 'T{..}' of a great struct: the value by its own fact. -/
theorem wpList_build_as {P : Program} {ops : Array Oper} {rest : List Oper} {o : Oper} {a : Act} {w : World} {Q : Exit → Act → World → Prop} (hg : o.guard = none) (t : TypeId) (parts : Array (Nat × Operand)) (ho : o.op = .build t parts)
    (vals : Array (Nat × Value)) (hv : (parts.toList.map fun (i, x) => (i, a.eval x)) = vals.toList) (cells : Array Value) (hrun : ∀ w, (Instr.build t vals).run P w = .ok (.agg cells) w)
    (h : wpList P ops Q rest (a.put o.dst (.agg cells)) w) : wpList P ops Q (o :: rest) a w :=
  wpList_plain hg fun K' hK' => by
    have hr : (Instr.build t (parts.map fun (i, x) => (i, a.eval x))).run P w = .ok (.agg cells) w := by
      have e : (parts.map fun (i, x) => (i, a.eval x)) = vals := by
        apply Array.toList_inj.1
        rw [Array.toList_map]; exact hv
      rw [e]; exact hrun w
    unfold Oper.wp execOp
    simp only [ho, Sem.run_bind, hr, Result.andThen_ok, Sem.run_pure]
    exact hK' _ _ h

/-- What the law is told of its slice of numbers. -/
def ArgI (w : World) (a : Option Addr) (n : Nat) (dz : Nat → Int) : Prop :=
  (∀ j, j < n → -128 ≤ dz j ∧ dz j ≤ 127) ∧ (n = 0 ∨ ∃ x, a = some x ∧ ∀ j, j < n → w.cell? (x.add j) = some (.int .i8 (dz j)))

/-- The encoder's block and its parts. -/
structure En (w W : World) (T g eN : Nat) : Prop where
  row : ∃ idf ix : Nat → Int, Rb w.heap.size 60 9 W g eN (fun j => cEnc (idf j) (ix j))
  cel : W.cell? ⟨T, 5, none⟩ = some (.slice (some ⟨g, 0, none⟩) eN eN)
  ne : g < T
  bel : Below w.heap.size w W

theorem En.made {w w1 : World} {eN : Nat} {cells : Array Value} (hb : Below w.heap.size w w1) (hg : w.heap.size < w1.heap.size) (h : Rb w.heap.size 60 9 w1 w.heap.size eN (fun _ => cEnc 0 0)) (hc : cells[5]? = some (.slice (some ⟨w.heap.size, 0, none⟩) eN eN)) :
    En w (w1.alloc (.cells cells 56)) w1.heap.size w.heap.size eN :=
  ⟨⟨fun _ => 0, fun _ => 0, h.below ((Below.refl w1.heap.size w1).alloc (Nat.le_refl _) _) hg⟩, by rw [cell_of_row _ _ _ _ _ _ (heap_alloc_new w1 _)]; exact hc, hg, hb.alloc hb.size _⟩

theorem En.lt {w W : World} {T g eN : Nat} (h : En w W T g eN) : T < W.heap.size := World.block_lt_of_cell? _ _ h.cel

theorem En.later {w W W' : World} {T g eN : Nat} (h : En w W T g eN) (hb : Below W.heap.size W W') : En w W' T g eN := by
  obtain ⟨idf, ix, hr⟩ := h.row
  exact ⟨⟨idf, ix, hr.below hb hr.lt⟩, by rw [hb.cell h.lt]; exact h.cel, h.ne, h.bel.trans (hb.mono h.bel.size)⟩

theorem En.set {w W : World} {T g eN k : Nat} (h : En w W T g eN) (hk : k < eN) (u v : Int) : En w ((W.setCell ⟨g, k * 9 + 5, none⟩ (.int .i64 u)).setCell ⟨g, k * 9 + 4, none⟩ (.int .i64 v)) T g eN := by
  obtain ⟨idf, ix, hr⟩ := h.row
  have hne := h.ne
  refine ⟨⟨fun j => if j = k then v else idf j, fun j => if j = k then u else ix j, ?_⟩, ?_, hne, (h.bel.setCell hr.base _).setCell hr.base _⟩
  · refine ((hr.set hk (c := 5) (by omega) (.int .i64 u)).set hk (c := 4) (by omega) (.int .i64 v)).congr fun j hj => ?_
    by_cases e : j = k
    · subst e; simp [cEnc]
    · simp [e]
  · have e1 : (⟨g, k * 9 + 4, none⟩ : Addr) ≠ ⟨T, 5, none⟩ := by
      intro e; simp at e
    have e2 : (⟨g, k * 9 + 5, none⟩ : Addr) ≠ ⟨T, 5, none⟩ := by
      intro e; simp at e
    rw [World.cell?_setCell_other _ _ _ _ e1, World.cell?_setCell_other _ _ _ _ e2]
    exact h.cel

/-- The scan's parts beside the encoder. -/
structure Sc (w W : World) (T g eN g2 nd : Nat) (ix : Nat → Int) : Prop where
  en : En w W T g eN
  row : ∃ idf : Nat → Int, Rb w.heap.size 66 10 W g2 nd (fun j => cScan (idf j) (ix j))
  lt : T < g2
  ne : g < g2

theorem Sc.made {w W w2 : World} {T g eN nd : Nat} (h : En w W T g eN) (hgrow : W.grownBy w2 none) (hr : Rb w.heap.size 66 10 w2 W.heap.size nd (fun _ => cScan 0 0)) : Sc w w2 T g eN W.heap.size nd (fun _ => 0) :=
  ⟨h.later ((Below.refl _ _).grown hgrow (Nat.le_refl _) (by simp)), ⟨fun _ => 0, hr⟩, h.lt, Nat.lt_trans h.ne h.lt⟩

theorem Sc.set {w W : World} {T g eN g2 nd k : Nat} {ix : Nat → Int} (h : Sc w W T g eN g2 nd ix) (hk : k < nd) (u v : Int) :
    Sc w ((W.setCell ⟨g2, k * 10 + 5, none⟩ (.int .i64 u)).setCell ⟨g2, k * 10 + 4, none⟩ (.int .i64 v)) T g eN g2 nd (fun j => if j = k then u else ix j) := by
  obtain ⟨idf, hr⟩ := h.row
  obtain ⟨idf', ix', hr'⟩ := h.en.row
  have h1 := h.lt
  have h2 := h.ne
  have hbl : ∀ b, b < g2 → ((W.setCell ⟨g2, k * 10 + 5, none⟩ (.int .i64 u)).setCell ⟨g2, k * 10 + 4, none⟩ (.int .i64 v)).heap[b]? = W.heap[b]? := fun b hb => by
    rw [Below.heap_setCell _ _ _ _ (by simp; omega), Below.heap_setCell _ _ _ _ (by simp; omega)]
  refine ⟨⟨⟨idf', ix', hr'.of_block (hbl g h2)⟩, ?_, h.en.ne, (h.en.bel.setCell hr.base _).setCell hr.base _⟩, ⟨fun j => if j = k then v else idf j, ?_⟩, h1, h2⟩
  · rw [World.cell?_of_block (w := W) (hbl T h1)]; exact h.en.cel
  · refine ((hr.set hk (c := 5) (by omega) (.int .i64 u)).set hk (c := 4) (by omega) (.int .i64 v)).congr fun j hj => ?_
    by_cases e : j = k
    · subst e; simp [cScan]
    · simp [e]

theorem Sc.later {w W W' : World} {T g eN g2 nd : Nat} {ix : Nat → Int} (h : Sc w W T g eN g2 nd ix) (hb : Below W.heap.size W W') : Sc w W' T g eN g2 nd ix := by
  obtain ⟨idf, hr⟩ := h.row
  exact ⟨h.en.later hb, ⟨idf, hr.below hb hr.lt⟩, h.lt, h.ne⟩

theorem Rb.base_mono {B B' t sz : Nat} {W : World} {g n : Nat} {F : Nat → List Value} (h : Rb B t sz W g n F) (hB : B' ≤ B) : Rb B' t sz W g n F := ⟨Nat.le_trans hB h.base, h.row, h.len, h.at_⟩

theorem ArgR.later {w W : World} {a : Option Addr} {n : Nat} {D : Nat → RwD} (h : ArgR w a n D) (hb : Below w.heap.size w W) : ArgR W a n D := by
  refine ⟨h.1, fun hp => ?_⟩
  obtain ⟨b, off, rfl, hbw, hr⟩ := h.2 hp
  exact ⟨b, off, rfl, Nat.lt_of_lt_of_le hbw hb.size, fun k hk j v hv => (hb.cell (p := ⟨b, off + k * 4 + j, none⟩) hbw).trans (hr k hk j v hv)⟩

/-- All that the law has made, ahead of the clones. -/
structure Al (w W : World) (T g eN g2 nd : Nat) (ide ixe idf ix : Nat → Int) (a3 : Option Addr) (ni : Nat) (D3 : Nat → RwD) (a4 : Option Addr) (n4 : Nat) (D4 : Nat → RwD) : Prop where
  e : Rs w.heap.size 60 9 W (some ⟨g, 0, none⟩) eN (fun j => cEnc (ide j) (ixe j))
  c : W.cell? ⟨T, 5, none⟩ = some (.slice (some ⟨g, 0, none⟩) eN eN)
  s : Rs w.heap.size 66 10 W (some ⟨g2, 0, none⟩) nd (fun j => cScan (idf j) (ix j))
  i : Rs w.heap.size 72 4 W a3 ni (fun q => rowOf (D3 q))
  o : Rs w.heap.size 72 4 W a4 n4 (fun q => rowOf (D4 q))
  b : Below w.heap.size w W

theorem Al.later {w W W' : World} {T g eN g2 nd : Nat} {ide ixe idf ix : Nat → Int} {a3 : Option Addr} {ni : Nat} {D3 : Nat → RwD} {a4 : Option Addr} {n4 : Nat} {D4 : Nat → RwD} (h : Al w W T g eN g2 nd ide ixe idf ix a3 ni D3 a4 n4 D4) (hb : Below W.heap.size W W') :
    Al w W' T g eN g2 nd ide ixe idf ix a3 ni D3 a4 n4 D4 :=
  ⟨h.e.below hb, by rw [hb.cell (World.block_lt_of_cell? _ _ h.c)]; exact h.c, h.s.below hb, h.i.below hb, h.o.below hb, h.b.trans (hb.mono h.b.size)⟩

theorem one_row (d : RwD) : ∀ v ∈ rowOf d, v.oneCell' = true := by simp [rowOf, cRow]; exact ⟨rfl, rfl, rfl, rfl⟩
theorem one_scan (a b : Int) : ∀ v ∈ cScan a b, v.oneCell' = true := by simp [cScan]; exact ⟨rfl, rfl, rfl, rfl, rfl⟩
theorem one_enc (a b : Int) : ∀ v ∈ cEnc a b, v.oneCell' = true := by simp [cEnc]; exact ⟨rfl, rfl, rfl, rfl, rfl⟩
theorem eqRow (d : RwD) (w : World) : (Op.equalIn 10000 72 (.agg (rowOf d).toArray) (.agg (rowOf d).toArray)).run Yba.prog w = .ok true w := eq72 9997 d.c d.p d.r d.f w
theorem eqScan (a b : Int) (w : World) : (Op.equalIn 10000 66 (.agg (cScan a b).toArray) (.agg (cScan a b).toArray)).run Yba.prog w = .ok true w := eq66 9997 a b w
theorem eqEnc (a b : Int) (w : World) : (Op.equalIn 10000 60 (.agg (cEnc a b).toArray) (.agg (cEnc a b).toArray)).run Yba.prog w = .ok true w := eq60 9997 a b w

set_option maxRecDepth 100000 in
set_option maxHeartbeats 8000000 in
theorem lawB_x (ne : Int) (same : Bool) (ad : Option Addr) (nd cd : Nat) (dz : Nat → Int) (ai : Option Addr) (ni ci : Nat) (Di : Nat → RwD) (ao : Option Addr) (no co : Nat) (Do : Nat → RwD) (match_ : Bool) (w : World)
    (h0 : 0 ≤ ne) (h1 : ne ≤ 255) (hd : ArgI w ad nd dz) (hi : ArgR w ai ni Di) (ho : ArgR w ao no Do) (hn : nd + ni + no ≤ 1048576) :
    Calls Yba.prog 4 #[.int .u8 ne, .bool same, .slice ad nd cd, .slice ai ni ci, .slice ao no co, .bool match_] w fun e w' => e = .returned (.bool true) ∧ Below w.heap.size w w' := by
  obtain ⟨i60, hi60, hz60, hs60, hy60⟩ := info_parts info60
  obtain ⟨i66, hi66, hz66, hs66, hy66⟩ := info_parts info66
  obtain ⟨i72, hi72, hz72, hs72, hy72⟩ := info_parts info72
  have HI := hide hi
  have HO := hide ho
  have HD := hide hd
  clear hi ho hd
  go_enter Yba.func4, Yba.ntmps4
  go_upto_if 41 with fail
  go_cut [13] (fun s W => ∃ eN : Nat, s = .int .i64 eN ∧ eN ≤ 1048576 ∧ W = w)
  case first =>
    cases same
    · go_wp2_with fail
      go_meet
      case rel => exact ⟨(ne % 16).toNat, by congr 1; omega, by omega, rfl⟩
    · go_wp2_with fail
      go_meet
      case rel => exact ⟨nd, rfl, by omega, rfl⟩
  case rest =>
    obtain ⟨eN, rfl, heN, hwc⟩ := hcut
    obtain rfl := hwc.symm
    obtain ⟨cells, hbuild, hc5⟩ := enc_built (some ⟨w.heap.size, 0, none⟩) eN eN
    go_wp2_with (first | (at_make; refine wpList_make_full _ rfl _ _ _ rfl w.heap.size 60 i60 _ 9 Yba.underlying38 hi60 hz60 hs60 _ _ _ _ eN rfl rfl (by rfl) (by rfl) (by rw [hy60]; omega) (by unfold maxLen; omega) (Nat.le_refl _) ?_))
    intro w1 hown hgrow
    have hrb : Rb w.heap.size 60 9 w1 w.heap.size eN _ := Rb.made rfl (by omega) hown
    have hb1 : Below w.heap.size w w1 := (Below.refl _ _).grown hgrow (Nat.le_refl _) (by simp)
    have HEN := hide (En.made hb1 hrb.lt hrb hc5)
    have hce := HEN.out.cel
    clear hown hgrow hrb hb1 hc5
    go_wp2_with (refine at_op (.build 56 #[(1, .tmp 45)]) rfl ?_; refine wpList_build_as rfl _ _ rfl #[(1, Value.slice (some ⟨w.heap.size, 0, none⟩) eN eN)] rfl cells hbuild ?_)
    have hT1 := HEN.out.lt
    have hgT := HEN.out.ne
    clear hce
    generalize w1.alloc (Obj.cells cells 56) = W1 at *
    generalize w1.heap.size = T at *
    clear hbuild
    go_loopw [53] (fun i W => ∃ k : Nat, k ≤ eN ∧ i = .int .i64 k ∧ En w W T w.heap.size eN) (fun i _ => eN - (intOf i).toNat)
    case atStart => exact ⟨0, by omega, rfl, HEN.out⟩
    case round =>
      clear HEN hT1
      obtain ⟨k, hk, rfl, hen⟩ := hrel
      have hce := hen.cel
      have HE := hide hen
      by_cases hlt : k < eN
      · obtain ⟨idf, ix, hrb⟩ := hen.row
        have hc5 : wr.cell? ⟨w.heap.size, k * 9 + 5, none⟩ = some (.int .i64 (ix k)) := hrb.cell hlt rfl
        have hc4 : wr.cell? ⟨w.heap.size, k * 9 + 4, none⟩ = some (.int .i64 (idf k)) := hrb.cell hlt rfl
        have hf : ∀ j, wr.frozen? ⟨w.heap.size, j, none⟩ = false := by
          obtain ⟨cur, hg, _⟩ := hrb.row
          exact fun j => frozen_of_row wr _ _ _ _ hg
        have HS := hide (hen.set hlt k (k + 1))
        clear hrb hen HE
        generalize w.heap.size = g at *
        go_wp2_with fail
        go_roundw
        case rel => exact ⟨k + 1, by omega, by go_num, HS.out⟩
        case measure => simp [intOf]; omega
      · clear hen hce
        have : k = eN := by omega
        subst this
        go_wp2_with (first | (at_make; refine wpList_make_full _ rfl _ _ _ rfl w.heap.size 66 i66 _ 10 Yba.underlying61 hi66 hz66 hs66 _ _ _ _ nd rfl rfl (by rfl) (by rfl) (by rw [hy66]; omega) (by unfold maxLen; omega) HE.out.bel.size ?_))
        intro w2 hown hgrow
        have hrb : Rb w.heap.size 66 10 w2 wr.heap.size nd _ := Rb.made rfl (by omega) hown
        have HSC := hide (Sc.made HE.out hgrow hrb)
        clear hown hgrow hrb HE
        generalize wr.heap.size = g2 at *
        go_wp2_with fail
        go_loopw [79] (fun i W => ∃ (j : Nat) (ix : Nat → Int), j ≤ nd ∧ i = .int .i64 j ∧ Sc w W T w.heap.size k g2 nd ix ∧ ∀ q, q < j → ix q = q + dz q) (fun i _ => nd - (intOf i).toNat)
        case atStart => exact ⟨0, _, by omega, rfl, HSC.out, by intro q hq; omega⟩
        case round =>
          clear HSC
          obtain ⟨j, ix, hj, rfl, hsc, hall⟩ := hrel
          by_cases hltj : j < nd
          · obtain ⟨idf, hrb⟩ := hsc.row
            obtain ⟨hzb, hzc⟩ := HD.out
            obtain ⟨hz0, hz1⟩ := hzb j hltj
            rcases hzc with h | ⟨xd, rfl, hzc⟩
            · omega
            have hcd0 := hzc j hltj
            have hcd : wr.cell? (xd.add j) = some (.int .i8 (dz j)) := by rw [hsc.en.bel.cell (World.block_lt_of_cell? _ _ hcd0)]; exact hcd0
            have hc5 : wr.cell? ⟨g2, j * 10 + 5, none⟩ = some (.int .i64 (ix j)) := hrb.cell hltj rfl
            have hc4 : wr.cell? ⟨g2, j * 10 + 4, none⟩ = some (.int .i64 (idf j)) := hrb.cell hltj rfl
            have hf : ∀ q, wr.frozen? ⟨g2, q, none⟩ = false := by
              obtain ⟨cur, hg, _⟩ := hrb.row
              exact fun q => frozen_of_row wr _ _ _ _ hg
            have HS := hide (hsc.set hltj (j + dz j) (j + 1))
            have HALL := hide hall
            clear hrb hsc hall hzb hzc hcd0
            go_wp2_with fail
            go_roundw
            case rel => exact ⟨j + 1, _, by omega, by go_num, HS.out, fun q hq => by
              by_cases e : q = j
              · subst e; simp
              · simp only [e, if_false]; exact HALL.out q (by omega)⟩
            case measure => simp [intOf]; omega
          · have : j = nd := by omega
            subst this
            have HSC := hide hsc
            have HALL := hide hall
            have HCV := hide (conv_any wr ai ni ci Di (HI.out.later hsc.en.bel) (by omega))
            clear hsc hall
            go_wp2_with fail
            refine HCV.out.mono ?_
            rintro e W3 ⟨a3, c3, rfl, hrs3, hb3⟩
            have HSC3 := hide (HSC.out.later hb3)
            have HIN := hide (hrs3.mono HSC.out.en.bel.size)
            clear HCV hrs3 hb3 HSC HI
            go_upto_if 102 with fail
            go_cut [19] (fun s W => ∃ (a4 : Option Addr) (n4 c4 : Nat) (D4 : Nat → RwD), s = .slice a4 n4 c4 ∧ n4 ≤ 1048576 ∧ Rs w.heap.size 72 4 W a4 n4 (fun q => rowOf (D4 q)) ∧ Below W3.heap.size W3 W)
            case first =>
              have HB3 := hide HSC3.out.en.bel
              clear HSC3 HIN HALL HD
              cases match_
              · have HCO := hide (conv_any W3 ao no co Do (HO.out.later HB3.out) (by omega))
                go_wp2_with fail
                refine HCO.out.mono ?_
                rintro e W4 ⟨a4, c4, rfl, hrs4, hb4⟩
                have HR4 := hide (hrs4.mono HB3.out.size)
                have HB4 := hide hb4
                clear HCO hrs4 hb4
                go_wp2_with fail
                go_meet
                case rel => exact ⟨a4, no, c4, Do, rfl, by omega, HR4.out, HB4.out⟩
              · go_wp2_with (first | (at_make; refine wpList_make_full _ rfl _ _ _ rfl W3.heap.size 72 i72 _ 4 Yba.underlying67 hi72 hz72 hs72 _ _ _ _ ni rfl rfl (by rfl) (by rfl) (by rw [hy72]; omega) (by unfold maxLen; omega) (Nat.le_refl _) ?_))
                intro w4 hown hgrow
                have hrb : Rb W3.heap.size 72 4 w4 W3.heap.size ni _ := Rb.made rfl (by omega) hown
                have hb4 : Below W3.heap.size W3 w4 := (Below.refl _ _).grown hgrow (Nat.le_refl _) (by simp)
                have HRB := hide hrb
                have HB4 := hide hb4
                clear hown hgrow hrb hb4
                go_wp2_with fail
                go_loopw [108] (fun i W => ∃ (q : Nat) (D4 : Nat → RwD), q ≤ ni ∧ i = .int .i64 q ∧ Rb W3.heap.size 72 4 W W3.heap.size ni (fun z => rowOf (D4 z)) ∧ Below W3.heap.size W3 W) (fun i _ => ni - (intOf i).toNat)
                case atStart => exact ⟨0, fun _ => ⟨0, 0, 0, false⟩, by omega, rfl, HRB.out, HB4.out⟩
                case round =>
                  clear HRB HB4
                  obtain ⟨q, D4, hq, rfl, hrb, hb4⟩ := hrel
                  have HRB := hide hrb
                  have HB4 := hide hb4
                  by_cases hltq : q < ni
                  · by_cases hno : no = 0
                    · subst hno
                      clear hrb hb4
                      go_wp2_with fail
                      go_roundw
                      case rel => exact ⟨q + 1, D4, by omega, by go_num, HRB.out, HB4.out⟩
                      case measure => simp [intOf]; omega
                    · have hno' : 0 < no := by omega
                      obtain ⟨b, off, rfl, hbw, hr⟩ := HO.out.2 hno'
                      have hm : q % no < no := Nat.mod_lt _ hno'
                      have hrk := hr (q % no) hm
                      have hr' : wr.rangeAt b (off + q % no * 4) (rowOf (Do (q % no))) := fun z v hz => (((HB3.out.trans (hb4.mono HB3.out.size))).cell (p := ⟨b, off + q % no * 4 + z, none⟩) hbw).trans (hrk z v hz)
                      generalize Do (q % no) = d at hr'
                      have f0 : wr.cell? ⟨b, off + q % no * 4, none⟩ = some (.int .i32 d.c) := hr' 0 _ rfl
                      have f1 : wr.cell? ⟨b, off + q % no * 4 + 1, none⟩ = some (.int .u8 d.p) := hr' 1 _ rfl
                      have f2 : wr.cell? ⟨b, off + q % no * 4 + 2, none⟩ = some (.int .u8 d.r) := hr' 2 _ rfl
                      have f3 : wr.cell? ⟨b, off + q % no * 4 + 3, none⟩ = some (.bool d.f) := hr' 3 _ rfl
                      obtain ⟨v0, v1, v2, v3, g0, g1, g2', g3, gf⟩ := hrb.four hltq
                      have m0 : (0 : Int) ≤ (q : Int) % (no : Int) := Int.emod_nonneg _ (by omega)
                      have m1 : (q : Int) % (no : Int) < (no : Int) := Int.emod_lt_of_pos _ (by omega)
                      have hGw := hrb.lt
                      have hput := hrb.put hltq (rowOf d) rfl
                      have HS := hide (hput.below ((Below.refl _ _).alloc (Nat.le_refl _) (.cells #[.int .i32 d.c, .int .u8 d.p, .int .u8 d.r, .bool d.f] 70)) hput.lt)
                      have hb5 := setCells_below W3.heap.size (Nat.le_refl _) (rowOf d) (q * 4) _ hb4
                      have HB5 := hide (hb5.alloc hb5.size (.cells #[.int .i32 d.c, .int .u8 d.p, .int .u8 d.r, .bool d.f] 70))
                      clear hput hb5
                      clear hrb hb4 hr hrk hr' HRB HB4
                      generalize W3.heap.size = G at *
                      go_wp2_with fail
                      go_roundw
                      case rel => exact ⟨q + 1, fun z => if z = q then d else D4 z, by omega, by go_num, Rb.congr (G := fun z => rowOf (if z = q then d else D4 z)) HS.out (fun z _ => by by_cases e : z = q <;> simp [e]), HB5.out⟩
                      case measure => simp [intOf]; omega
                  · clear hrb hb4
                    go_wp2_with fail
                    go_meet
                    case rel => exact ⟨_, ni, ni, D4, rfl, by omega, .inr ⟨_, rfl, (HRB.out.base_mono HB3.out.size)⟩, HB4.out⟩
            case rest =>
              obtain ⟨a4, n4, c4, D4, rfl, hn4, hout, hb4⟩ := hcut
              obtain ⟨ide, ixe, hre⟩ := HSC3.out.en.row
              obtain ⟨idf, hrs⟩ := HSC3.out.row
              have hall : Al w W3 T w.heap.size k g2 j ide ixe idf ix a3 ni Di none 0 D4 := ⟨.inr ⟨_, rfl, hre⟩, HSC3.out.en.cel, .inr ⟨_, rfl, hrs⟩, HIN.out, .inl ⟨rfl, rfl⟩, HSC3.out.en.bel⟩
              have hall4 := hall.later hb4
              have HAL : Hid (Al w wc T w.heap.size k g2 j ide ixe idf ix a3 ni Di a4 n4 D4) := ⟨hall4.e, hall4.c, hall4.s, hall4.i, hout, hall4.b⟩
              clear hall hall4 hre hrs hout hb4 HSC3 HIN HO
              have hni : ni ≤ 1048576 := by omega
              have HC := hide (clone8 _ wc a3 ni c3 _ HAL.out.i (fun q _ => one_row _) hni)
              go_wp2_with fail
              refine HC.out.mono ?_
              rintro e W5 ⟨a5, c5, rfl, hrs5, hb5⟩
              have HAL5 := hide (HAL.out.later hb5)
              have HR5 := hide (hrs5.mono HAL.out.b.size)
              clear HC hrs5 hb5 HAL
              have HC := hide (clone8 _ W5 a4 n4 c4 _ HAL5.out.o (fun q _ => one_row _) hn4)
              go_wp2_with fail
              refine HC.out.mono ?_
              rintro e W6 ⟨a6, c6, rfl, hrs6, hb6⟩
              have HAL6 := hide (HAL5.out.later hb6)
              have HR5' := hide (HR5.out.below hb6)
              have HR6 := hide (hrs6.mono HAL5.out.b.size)
              clear HC hrs6 hb6 HAL5 HR5
              have hnj : j ≤ 1048576 := by omega
              have HC := hide (clone9 _ W6 _ j j _ HAL6.out.s (fun q _ => one_scan _ _) hnj)
              go_wp2_with fail
              refine HC.out.mono ?_
              rintro e W7 ⟨a7, c7, rfl, hrs7, hb7⟩
              have HAL7 := hide (HAL6.out.later hb7)
              have HR5 := hide (HR5'.out.below hb7)
              have HR6' := hide (HR6.out.below hb7)
              have HR7 := hide (hrs7.mono HAL6.out.b.size)
              clear HC hrs7 hb7 HAL6 HR5' HR6
              have HC := hide (clone10 _ W7 _ k k _ HAL7.out.e (fun q _ => one_enc _ _) heN)
              have hce := HAL7.out.c
              go_wp2_with fail
              refine HC.out.mono ?_
              rintro e W8 ⟨a8, c8, rfl, hrs8, hb8⟩
              have HAL8 := hide (HAL7.out.later hb8)
              have HR5' := hide (HR5.out.below hb8)
              have HR6 := hide (HR6'.out.below hb8)
              have HR7' := hide (HR7.out.below hb8)
              have HR8 := hide (hrs8.mono HAL7.out.b.size)
              clear HC hrs8 hb8 HAL7 HR5 HR6' HR7 hce
              obtain ⟨r, hr⟩ : ∃ r : Bool, r = true ↔ (j = k ∧ ni = n4 ∧ ∀ q, q < j → ix q = q) := ⟨decide (j = k ∧ ni = n4 ∧ ∀ q, q < j → ix q = q), by simp⟩
              have HC := hide (recodes_any _ T W8 _ _ a3 a4 j j k k ni c3 n4 c4 idf ix HAL8.out.s HAL8.out.c r hr hnj)
              have HRR := hide hr
              clear hr
              go_wp2_with fail
              refine HC.out.mono ?_
              rintro e W9 ⟨rfl, hW9⟩
              obtain rfl := hW9.symm
              clear HC
              --TAIL
              by_cases e1 : k = j
              · by_cases e2 : ni = n4
                · have hrr : r = true ↔ ∀ q, q < j → dz q = 0 := by
                    rw [HRR.out]
                    refine ⟨fun h q hq => by have := h.2.2 q hq; rw [HALL.out q hq] at this; omega, fun h => ⟨e1.symm, e2, fun q hq => by rw [HALL.out q hq, h q hq]; omega⟩⟩
                  have HRD := hide hrr
                  clear hrr HRR HALL
                  subst e1
                  subst e2
                  go_upto_if 163 with fail
                  go_cut [27] (fun s W => s = .bool r ∧ W = W8)
                  case first =>
                    have HB8 := hide HAL8.out.b
                    clear HAL8 HR5' HR6 HR7' HR8
                    go_wp2_with fail
                    go_loopw [27, 166] (fun s i W => ∃ q : Nat, q ≤ k ∧ s = .bool true ∧ i = .int .i64 q ∧ (∀ z, z < q → dz z = 0) ∧ W = W8) (fun _ i _ => k - (intOf i).toNat)
                    case atStart => exact ⟨0, by omega, rfl, rfl, by intro z hz; omega, rfl⟩
                    case round =>
                      obtain ⟨q, hq, rfl, rfl, hz, rfl⟩ := hrel
                      have HZ := hide hz
                      clear hz
                      by_cases hltq : q < k
                      · obtain ⟨hzb, hzc⟩ := HD.out
                        rcases hzc with h | ⟨xd, rfl, hzc⟩
                        · omega
                        have hcd0 := hzc q hltq
                        have hcd : wr.cell? (xd.add q) = some (.int .i8 (dz q)) := by rw [HB8.out.cell (World.block_lt_of_cell? _ _ hcd0)]; exact hcd0
                        clear hzb hzc hcd0
                        by_cases ez : dz q = 0
                        · go_wp2_with fail
                          go_roundw
                          case rel => exact ⟨q + 1, by omega, rfl, by go_num, fun z hz => by
                            by_cases e : z = q
                            · subst e; exact ez
                            · exact HZ.out z (by omega), trivial⟩
                          case measure => simp [intOf]; omega
                        · have hrf : r = false := by
                            cases r
                            · rfl
                            · exact absurd (HRD.out.1 rfl q hltq) ez
                          subst hrf
                          go_wp2_with fail
                          go_meet
                          case rel => exact ⟨rfl, rfl⟩
                      · have hrt : r = true := HRD.out.2 fun z hz => HZ.out z (by omega)
                        subst hrt
                        go_wp2_with fail
                        go_meet
                        case rel => exact ⟨rfl, rfl⟩
                  case rest =>
                    obtain ⟨rfl, hwc⟩ := hcut
                    obtain rfl := hwc.symm
                    cases r
                    all_goals
                      go_wp2_with fail
                      refine (equal12 _ _ W8 a3 a5 ni c3 c5 _ HAL8.out.i HR5'.out (fun q _ => eqRow _) hni).mono ?_
                      rintro e W10 ⟨rfl, hb10⟩
                      have HALa := hide (HAL8.out.later hb10)
                      have HR6a := hide (HR6.out.below hb10)
                      have HR7a := hide (HR7'.out.below hb10)
                      have HR8a := hide (HR8.out.below hb10)
                      clear hb10 HAL8 HR6 HR7' HR8
                      go_wp2_with fail
                      refine (equal12 _ _ W10 a4 a6 ni c4 c6 _ HALa.out.o HR6a.out (fun q _ => eqRow _) hni).mono ?_
                      rintro e W11 ⟨rfl, hb11⟩
                      have HALb := hide (HALa.out.later hb11)
                      have HR7b := hide (HR7a.out.below hb11)
                      have HR8b := hide (HR8a.out.below hb11)
                      clear hb11 HALa HR6a HR7a HR8a
                      go_wp2_with fail
                      refine (equal13 _ _ W11 _ a7 k k c7 _ HALb.out.s HR7b.out (fun q _ => eqScan _ _) heN).mono ?_
                      rintro e W12 ⟨rfl, hb12⟩
                      have HALc := hide (HALb.out.later hb12)
                      have HR8c := hide (HR8b.out.below hb12)
                      have hce := HALc.out.c
                      clear hb12 HALb HR7b HR8b
                      go_wp2_with fail
                      refine (equal14 _ _ W12 _ a8 k k c8 _ HALc.out.e HR8c.out (fun q _ => eqEnc _ _) heN).mono ?_
                      rintro e W13 ⟨rfl, hb13⟩
                      have HBF := hide (HALc.out.later hb13).b
                      clear hb13 HALc HR8c
                      go_wp2_with fail
                      go_ret
                      exact ⟨rfl, HBF.out⟩
                · have hrf : r = false := by
                    cases r
                    · rfl
                    · exact absurd (HRR.out.1 rfl).2.1 e2
                  subst hrf
                  subst e1
                  go_wp2_with fail
                  refine (equal12 _ _ W8 a3 a5 ni c3 c5 _ HAL8.out.i HR5'.out (fun q _ => eqRow _) hni).mono ?_
                  rintro e W10 ⟨rfl, hb10⟩
                  have HALa := hide (HAL8.out.later hb10)
                  have HR6a := hide (HR6.out.below hb10)
                  have HR7a := hide (HR7'.out.below hb10)
                  have HR8a := hide (HR8.out.below hb10)
                  clear hb10 HAL8 HR6 HR7' HR8
                  go_wp2_with fail
                  refine (equal12 _ _ W10 a4 a6 n4 c4 c6 _ HALa.out.o HR6a.out (fun q _ => eqRow _) hn4).mono ?_
                  rintro e W11 ⟨rfl, hb11⟩
                  have HALb := hide (HALa.out.later hb11)
                  have HR7b := hide (HR7a.out.below hb11)
                  have HR8b := hide (HR8a.out.below hb11)
                  clear hb11 HALa HR6a HR7a HR8a
                  go_wp2_with fail
                  refine (equal13 _ _ W11 _ a7 k k c7 _ HALb.out.s HR7b.out (fun q _ => eqScan _ _) heN).mono ?_
                  rintro e W12 ⟨rfl, hb12⟩
                  have HALc := hide (HALb.out.later hb12)
                  have HR8c := hide (HR8b.out.below hb12)
                  have hce := HALc.out.c
                  clear hb12 HALb HR7b HR8b
                  go_wp2_with fail
                  refine (equal14 _ _ W12 _ a8 k k c8 _ HALc.out.e HR8c.out (fun q _ => eqEnc _ _) heN).mono ?_
                  rintro e W13 ⟨rfl, hb13⟩
                  have HBF := hide (HALc.out.later hb13).b
                  clear hb13 HALc HR8c
                  go_wp2_with fail
                  go_ret
                  exact ⟨rfl, HBF.out⟩
              · have hrf : r = false := by
                  cases r
                  · rfl
                  · exact absurd (HRR.out.1 rfl).1.symm e1
                subst hrf
                go_wp2_with fail
                refine (equal12 _ _ W8 a3 a5 ni c3 c5 _ HAL8.out.i HR5'.out (fun q _ => eqRow _) hni).mono ?_
                rintro e W10 ⟨rfl, hb10⟩
                have HALa := hide (HAL8.out.later hb10)
                have HR6a := hide (HR6.out.below hb10)
                have HR7a := hide (HR7'.out.below hb10)
                have HR8a := hide (HR8.out.below hb10)
                clear hb10 HAL8 HR6 HR7' HR8
                go_wp2_with fail
                refine (equal12 _ _ W10 a4 a6 n4 c4 c6 _ HALa.out.o HR6a.out (fun q _ => eqRow _) hn4).mono ?_
                rintro e W11 ⟨rfl, hb11⟩
                have HALb := hide (HALa.out.later hb11)
                have HR7b := hide (HR7a.out.below hb11)
                have HR8b := hide (HR8a.out.below hb11)
                clear hb11 HALa HR6a HR7a HR8a
                go_wp2_with fail
                refine (equal13 _ _ W11 _ a7 j j c7 _ HALb.out.s HR7b.out (fun q _ => eqScan _ _) hnj).mono ?_
                rintro e W12 ⟨rfl, hb12⟩
                have HALc := hide (HALb.out.later hb12)
                have HR8c := hide (HR8b.out.below hb12)
                have hce := HALc.out.c
                clear hb12 HALb HR7b HR8b
                go_wp2_with fail
                refine (equal14 _ _ W12 _ a8 k k c8 _ HALc.out.e HR8c.out (fun q _ => eqEnc _ _) heN).mono ?_
                rintro e W13 ⟨rfl, hb13⟩
                have HBF := hide (HALc.out.later hb13).b
                clear hb13 HALc HR8c
                go_wp2_with fail
                go_ret
                exact ⟨rfl, HBF.out⟩
end Go.Proofs.Ybulkedlg
