import Derived.Test.YbulkednkFmtLw
import Derived.Test.YbulkednkFmtTie
import Derived.Test.YbulkednkFmtCards
import Derived.SevenTiedAt
import Derived.ProofKit
import Derived.OpenShut
import Derived.ShutString
import Derived.ChangeOld
import Derived.Below
import Derived.LaidMore
import Derived.Lay
import Derived.SizedLaws
import Derived.Deep.Strs
import Derived.Deep.DeepWitnessRef
import Derived.Stop.JoinedAt
import Derived.Stop.JoinedTold
import Derived.Stop.LaidErr
import Derived.Lib.LaidTab
import Derived.Lib.SmallJoins
namespace Go.Proofs.YbulkednkFmt
open Go.ChangeShapes Go.WideShapes Go.ChangeAt Go.RowKit Go.Deep
open Go.ChangeMaps (open_string shut_string)
open Go.Extern.Stop Go.Stop Go.Extern
set_option linter.unusedVariables false

theorem own : ownKnob Ybaf.prog.godebug = none := by kernel_rfl
theorem laidOut : laidOutB Ybaf.prog = true := by kernel_rfl
theorem row76 {s : String} (hs : some s = some (String.singleton (Char.ofNat 42) ++ "errors.errorString")) (u : TypeId) (h : Ybaf.prog.typeName? 3 u = some s) : u = 76 :=
  typeName_ptr_named (nm := "errors.errorString") (by kernel_rfl) (by kernel_rfl) (by decide) u (h.trans (hs.trans (by kernel_rfl)))
theorem cells23 : Ybaf.prog.cellsOf 23 = 3 := by kernel_rfl
theorem cells5 : Ybaf.prog.cellsOf 5 = 1 := by kernel_rfl
theorem cells3 : Ybaf.prog.cellsOf 3 = 1 := by kernel_rfl
theorem cells9 : Ybaf.prog.cellsOf 9 = 1 := by kernel_rfl

theorem laid_ok {W : World} (h : laidMetH Ybaf.prog Rows.lawS6497CWholeRow.laid W) : LaidOk W := by
  rw [MakeChecks.laidMetH_plain _ _ _ (by kernel_rfl)] at h
  have hL : laidMet Ybaf.prog Rows.lawS6497CWholeRow.laid W := h
  unfold Rows.lawS6497CWholeRow at hL
  refine ⟨?_, ?_, ?_⟩
  · exact Lib.tabIs_of_head (g := 2) (t := 91) (e := 45) (n := 20) (by kernel_rfl) (by kernel_rfl) Ybaf.underlying91 Ybaf.underlying45 (by kernel_rfl) (by kernel_rfl) (zs := Lib.pow10Tab) hL.tail.tail
  · obtain ⟨a0, t0, hv0, _⟩ := laid_sentinel (g := 0) hL.tail.tail.tail.tail (by kernel_rfl) (by kernel_rfl) Ybaf.underlying34 (row76 (by kernel_rfl)) Ybaf.underlying76 Ybaf.underlying78 rfl rfl Ybaf.underlying9 (by kernel_rfl) (by kernel_rfl)
    exact ⟨_, _, hv0⟩
  · obtain ⟨a0, t0, hv0, _⟩ := laid_sentinel (g := 1) hL.tail.tail.tail (by kernel_rfl) (by kernel_rfl) Ybaf.underlying34 (row76 (by kernel_rfl)) Ybaf.underlying76 Ybaf.underlying78 rfl rfl Ybaf.underlying9 (by kernel_rfl) (by kernel_rfl)
    exact ⟨_, _, hv0⟩

set_option maxRecDepth 100000 in
/-- One of the law's eight values. -/
theorem open_val {H : Type} {enc : TypeId × Value → H} {W : World} {base : Nat} {v : Value} {d : DataW H} {p : List MemPlace} (hok : Value.okWide Ybaf.prog W .any base 23 v) (h : DataW.Trod enc Ybaf.prog W 0 (fun _ => true) true 23 v d p) :
    ∃ (m n : Int) (S : ByteArray), v = .agg #[.int .u8 m, .int .i64 n, .string S] ∧ (0 ≤ m ∧ m ≤ 255) ∧ (-9223372036854775808 ≤ n ∧ n ≤ 9223372036854775807) ∧ ∃ d0 d1, d = .agg [d0, d1, .lit (.string S.data.toList)] := by
  obtain ⟨cs, rfl, hcs⟩ := okWide_struct Ybaf.underlying23 hok
  obtain ⟨fuel, hf⟩ := h
  obtain ⟨y0, y1, y2, n, hx, hl, h0, h1, h2⟩ := trod_struct3 Ybaf.underlying23 hf
  simp only [cells23, cells5, cells3, cells9] at hl h0 h1 h2
  obtain ⟨m, e0, _, w0⟩ := DataW.trod_int Ybaf.underlying5 h0
  obtain ⟨z, e1, _, w1⟩ := DataW.trod_int Ybaf.underlying3 h1
  obtain ⟨S, e2, f2, w2⟩ := DataW.trod_string Ybaf.underlying9 h2
  refine ⟨m, z, S, ?_, ?_, ?_, y0.1, y1.1, ?_⟩
  · have hl3 : cs.toList.length = 3 := by simpa [Value.cells] using hl
    have : cs = #[.int .u8 m, .int .i64 z, .string S] := by
      apply Array.toList_inj.1
      simp only [Value.cells] at e0 e1 e2
      match hc : cs.toList, hl3 with
      | [a, b, c], _ =>
        rw [hc] at e0 e1 e2
        simp at e0 e1 e2
        rw [e0, e1, e2]
    rw [this]
  · simpa [Lit.wf, IntKind.min, IntKind.max, IntKind.signed, IntKind.bits] using w0
  · simpa [Lit.wf, IntKind.min, IntKind.max, IntKind.signed, IntKind.bits] using w1
  · have := congrArg Prod.fst hx
    rw [f2] at this
    exact this

theorem val_bound {H : Type} {ts : List TypeId} {ds : List (DataW H)} (hsz : (DataW.weightsEach Ybaf.prog ts ds).all (· ≤ reachBytes) = true) {j : Nat} {d0 d1 : DataW H} {l : List UInt8} (ht : ts[j]? = some 23) (hd : ds[j]? = some (.agg [d0, d1, .lit (.string l)])) : l.length ≤ 140737488351232 := by
  have h1 : l.length ∈ (DataW.agg [d0, d1, .lit (.string l)] : DataW H).weights Ybaf.prog 23 := by
    unfold DataW.weights
    rw [Ybaf.underlying23]
    refine DataW.weights_mem_each (j := 2) (t := 9) rfl rfl _ ?_
    simp [DataW.weights]
  have := List.all_eq_true.1 hsz _ (DataW.weights_mem_each ht hd _ h1)
  have h3 : reachBytes = 140737488351232 := rfl
  simp at this
  omega

def witArgs : Array Value := #[.agg #[.int .u8 0, .int .i64 0, .string ⟨#[]⟩], .agg #[.int .u8 0, .int .i64 0, .string ⟨#[]⟩], .agg #[.int .u8 0, .int .i64 0, .string ⟨#[]⟩], .agg #[.int .u8 0, .int .i64 0, .string ⟨#[]⟩], .agg #[.int .u8 0, .int .i64 0, .string ⟨#[]⟩], .agg #[.int .u8 0, .int .i64 0, .string ⟨#[]⟩], .agg #[.int .u8 0, .int .i64 0, .string ⟨#[]⟩], .agg #[.int .u8 0, .int .i64 0, .string ⟨#[]⟩]]
def witD {H : Type} : DataW H := .agg [.lit (.int .u8 0), .lit (.int .i64 0), .lit (.string [])]

theorem wit_laid (os : Os) : laidMetH Ybaf.prog Rows.lawS6497CWholeRow.laid ((World.laidAll Ybaf.prog os Rows.lawS6497CWholeRow.laid).forCall (fun _ _ => 0) ⟨#[], witArgs, []⟩).memory := by
  rw [MakeChecks.laidMetH_plain _ _ _ (by kernel_rfl)]; exact laidMet_laidAll _ (by kernel_rfl) (by kernel_rfl)

theorem wit_row (os : Os) {H : Type} (enc : TypeId × Value → H) :
    (OpenSpec.ofChange Rows.lawS6497CWholeSpec).preRow enc Ybaf.prog Ybaf.f3 [] false Rows.lawS6497CWholeRow.laid ((World.laidAll Ybaf.prog os Rows.lawS6497CWholeRow.laid).forCall (fun _ _ => 0) ⟨#[], witArgs, []⟩).memory witArgs := by
  have hw : (DataW.whole enc Ybaf.prog ((World.laidAll Ybaf.prog os Rows.lawS6497CWholeRow.laid).forCall (fun _ _ => 0) ⟨#[], witArgs, []⟩).memory Ybaf.f3.params.toList (OpenSpec.ofChange Rows.lawS6497CWholeSpec).vars false witArgs.toList 8).map (fun x => (x.1, x.2.1)) =
      some ([witD, witD, witD, witD, witD, witD, witD, witD], []) := by kernel_rfl
  obtain ⟨⟨x1, x2, x3⟩, hx, hx1⟩ := Option.map_eq_some_iff.1 hw
  simp only [Prod.mk.injEq] at hx1
  obtain ⟨rfl, rfl⟩ := hx1
  exact OpenSpec.preRow_of_cond 8 hx (by kernel_rfl) (fun k hk => by cases hk) (by kernel_rfl) (wit_laid os)

set_option maxRecDepth 100000 in
theorem lifted (os : Os) (started : os.Started) (H : Type) (enc : TypeId × Value → H) :
    ReturnsInTold none {} Ybaf.checked os 3 .any Input.okWide ((OpenSpec.ofChange Rows.lawS6497CWholeSpec).preRow enc Ybaf.prog Ybaf.f3 [] false Rows.lawS6497CWholeRow.laid) (fun F => ((OpenSpec.ofChange Rows.lawS6497CWholeSpec).at F).post enc Ybaf.prog Ybaf.f3 false true false false) (aloneAtReturn Ybaf.prog) nothingAlways := by
  refine returnsInTold_of_row (C := Ybaf.checked) (s := OpenSpec.ofChange Rows.lawS6497CWholeSpec) (by kernel_rfl) own started (by kernel_rfl) Ybaf.func3
    (OpenSpec.witness_stopped_atRef (enc := enc) (C := Ybaf.checked) false (World.laidAll Ybaf.prog os Rows.lawS6497CWholeRow.laid) witArgs (World.laidAll_os _ _ _) (by kernel_rfl) (by kernel_rfl) (by kernel_rfl) (wit_row os enc)) ?_
  intro F W base args ds gs before _ hF hval0 hW _ _ hsz hL _
  have hval : ∀ (j : Nat) t v, Ybaf.f3.params[j]? = some t → args[j]? = some v → Value.okWide Ybaf.prog W .any base t v := hval0
  have hW' := hW
  obtain ⟨p, q, hA0, hV, rfl, hfz, hnd⟩ := hW
  have hA : DataW.TrodAll enc Ybaf.prog W 0 (fun _ => true) true Ybaf.f3.params.toList args.toList ds p := hA0
  rw [Ybaf.params3] at hA hval
  obtain ⟨v0, vs0, d0, ds0, p0, q0, hargs, rfl, rfl, h0, r0⟩ := trodAll_cons hA
  obtain ⟨v1, vs1, d1, ds1, p1, q1, rfl, rfl, rfl, h1, r1⟩ := trodAll_cons r0
  obtain ⟨v2, vs2, d2, ds2, p2, q2, rfl, rfl, rfl, h2, r2⟩ := trodAll_cons r1
  obtain ⟨v3, vs3, d3, ds3, p3, q3, rfl, rfl, rfl, h3, r3⟩ := trodAll_cons r2
  obtain ⟨v4, vs4, d4, ds4, p4, q4, rfl, rfl, rfl, h4, r4⟩ := trodAll_cons r3
  obtain ⟨v5, vs5, d5, ds5, p5, q5, rfl, rfl, rfl, h5, r5⟩ := trodAll_cons r4
  obtain ⟨v6, vs6, d6, ds6, p6, q6, rfl, rfl, rfl, h6, r6⟩ := trodAll_cons r5
  obtain ⟨v7, vs7, d7, ds7, p7, q7, rfl, rfl, rfl, h7, r7⟩ := trodAll_cons r6
  obtain ⟨rfl, rfl, rfl⟩ := trodAll_nil r7
  obtain rfl : args = #[v0, v1, v2, v3, v4, v5, v6, v7] := by cases args; simp_all
  obtain ⟨rfl, rfl⟩ := trodVars_none hV
  have k0 := h0
  have lt0 : ∀ x ∈ p0, x.block < W.heap.size := by obtain ⟨m, hm⟩ := k0; exact DataW.trod_lt m _ _ _ hm
  obtain ⟨m0, n0, s0, rfl, a0, b0, e0, f0, rfl⟩ := open_val (hval 0 23 v0 rfl rfl) h0
  have z0 : s0.data.toList.length ≤ 140737488351232 := val_bound hsz (j := 0) rfl rfl
  have k1 := h1
  have lt1 : ∀ x ∈ p1, x.block < W.heap.size := by obtain ⟨m, hm⟩ := k1; exact DataW.trod_lt m _ _ _ hm
  obtain ⟨m1, n1, s1, rfl, a1, b1, e1, f1, rfl⟩ := open_val (hval 1 23 v1 rfl rfl) h1
  have z1 : s1.data.toList.length ≤ 140737488351232 := val_bound hsz (j := 1) rfl rfl
  have k2 := h2
  have lt2 : ∀ x ∈ p2, x.block < W.heap.size := by obtain ⟨m, hm⟩ := k2; exact DataW.trod_lt m _ _ _ hm
  obtain ⟨m2, n2, s2, rfl, a2, b2, e2, f2, rfl⟩ := open_val (hval 2 23 v2 rfl rfl) h2
  have z2 : s2.data.toList.length ≤ 140737488351232 := val_bound hsz (j := 2) rfl rfl
  have k3 := h3
  have lt3 : ∀ x ∈ p3, x.block < W.heap.size := by obtain ⟨m, hm⟩ := k3; exact DataW.trod_lt m _ _ _ hm
  obtain ⟨m3, n3, s3, rfl, a3, b3, e3, f3, rfl⟩ := open_val (hval 3 23 v3 rfl rfl) h3
  have z3 : s3.data.toList.length ≤ 140737488351232 := val_bound hsz (j := 3) rfl rfl
  have k4 := h4
  have lt4 : ∀ x ∈ p4, x.block < W.heap.size := by obtain ⟨m, hm⟩ := k4; exact DataW.trod_lt m _ _ _ hm
  obtain ⟨m4, n4, s4, rfl, a4, b4, e4, f4, rfl⟩ := open_val (hval 4 23 v4 rfl rfl) h4
  have z4 : s4.data.toList.length ≤ 140737488351232 := val_bound hsz (j := 4) rfl rfl
  have k5 := h5
  have lt5 : ∀ x ∈ p5, x.block < W.heap.size := by obtain ⟨m, hm⟩ := k5; exact DataW.trod_lt m _ _ _ hm
  obtain ⟨m5, n5, s5, rfl, a5, b5, e5, f5, rfl⟩ := open_val (hval 5 23 v5 rfl rfl) h5
  have z5 : s5.data.toList.length ≤ 140737488351232 := val_bound hsz (j := 5) rfl rfl
  have k6 := h6
  have lt6 : ∀ x ∈ p6, x.block < W.heap.size := by obtain ⟨m, hm⟩ := k6; exact DataW.trod_lt m _ _ _ hm
  obtain ⟨m6, n6, s6, rfl, a6, b6, e6, f6, rfl⟩ := open_val (hval 6 23 v6 rfl rfl) h6
  have z6 : s6.data.toList.length ≤ 140737488351232 := val_bound hsz (j := 6) rfl rfl
  have k7 := h7
  have lt7 : ∀ x ∈ p7, x.block < W.heap.size := by obtain ⟨m, hm⟩ := k7; exact DataW.trod_lt m _ _ _ hm
  obtain ⟨m7, n7, s7, rfl, a7, b7, e7, f7, rfl⟩ := open_val (hval 7 23 v7 rfl rfl) h7
  have z7 : s7.data.toList.length ≤ 140737488351232 := val_bound hsz (j := 7) rfl rfl
  clear hA0 hval0
  obtain ⟨M, hM0⟩ : ∃ M : Nat → Int, M = (fun i => if i = 0 then m0 else if i = 1 then m1 else if i = 2 then m2 else if i = 3 then m3 else if i = 4 then m4 else if i = 5 then m5 else if i = 6 then m6 else m7) := ⟨_, rfl⟩
  obtain ⟨N, hN0⟩ : ∃ N : Nat → Int, N = (fun i => if i = 0 then n0 else if i = 1 then n1 else if i = 2 then n2 else if i = 3 then n3 else if i = 4 then n4 else if i = 5 then n5 else if i = 6 then n6 else n7) := ⟨_, rfl⟩
  obtain ⟨S, hS0⟩ : ∃ S : Nat → ByteArray, S = (fun i => if i = 0 then s0 else if i = 1 then s1 else if i = 2 then s2 else if i = 3 then s3 else if i = 4 then s4 else if i = 5 then s5 else if i = 6 then s6 else s7) := ⟨_, rfl⟩
  have hM : ∀ i, i < 8 → 0 ≤ M i ∧ M i ≤ 255 := by
    subst hM0
    intro i hi
    match i, hi with
    | 0, _ => exact a0
    | 1, _ => exact a1
    | 2, _ => exact a2
    | 3, _ => exact a3
    | 4, _ => exact a4
    | 5, _ => exact a5
    | 6, _ => exact a6
    | 7, _ => exact a7
  have hN : ∀ i, i < 8 → -9223372036854775808 ≤ N i ∧ N i ≤ 9223372036854775807 := by
    subst hN0
    intro i hi
    match i, hi with
    | 0, _ => exact b0
    | 1, _ => exact b1
    | 2, _ => exact b2
    | 3, _ => exact b3
    | 4, _ => exact b4
    | 5, _ => exact b5
    | 6, _ => exact b6
    | 7, _ => exact b7
  have hS : ∀ i, i < 8 → (S i).size ≤ 140737488351232 := by
    subst hS0
    intro i hi
    match i, hi with
    | 0, _ => exact z0
    | 1, _ => exact z1
    | 2, _ => exact z2
    | 3, _ => exact z3
    | 4, _ => exact z4
    | 5, _ => exact z5
    | 6, _ => exact z6
    | 7, _ => exact z7
  have walk := law_any M N S W hM hN hS (laid_ok hL)
  subst hM0 hN0 hS0
  have walk2 : Calls Ybaf.prog 3 #[.agg #[.int .u8 m0, .int .i64 n0, .string s0], .agg #[.int .u8 m1, .int .i64 n1, .string s1], .agg #[.int .u8 m2, .int .i64 n2, .string s2], .agg #[.int .u8 m3, .int .i64 n3, .string s3], .agg #[.int .u8 m4, .int .i64 n4, .string s4], .agg #[.int .u8 m5, .int .i64 n5, .string s5], .agg #[.int .u8 m6, .int .i64 n6, .string s6], .agg #[.int .u8 m7, .int .i64 n7, .string s7]] W fun e w1 => e = .returned (.bool true) ∧ Below W.heap.size W w1 := walk
  refine walk2.mono fun e W' ⟨he, bel⟩ => ?_
  subst he
  exact ⟨_, rfl, _, _, _, [], _, [], hW', trodAll_mk1 (shut_bool Ybaf.underlying4 _), (trodAll_cons_mk (Below.trod laidOut (by kernel_rfl) (of_decide_eq_true (by kernel_rfl)) k0 bel lt0) (trodAll_cons_mk (Below.trod laidOut (by kernel_rfl) (of_decide_eq_true (by kernel_rfl)) k1 bel lt1) (trodAll_cons_mk (Below.trod laidOut (by kernel_rfl) (of_decide_eq_true (by kernel_rfl)) k2 bel lt2) (trodAll_cons_mk (Below.trod laidOut (by kernel_rfl) (of_decide_eq_true (by kernel_rfl)) k3 bel lt3) (trodAll_cons_mk (Below.trod laidOut (by kernel_rfl) (of_decide_eq_true (by kernel_rfl)) k4 bel lt4) (trodAll_cons_mk (Below.trod laidOut (by kernel_rfl) (of_decide_eq_true (by kernel_rfl)) k5 bel lt5) (trodAll_cons_mk (Below.trod laidOut (by kernel_rfl) (of_decide_eq_true (by kernel_rfl)) k6 bel lt6) (trodAll_cons_mk (Below.trod laidOut (by kernel_rfl) (of_decide_eq_true (by kernel_rfl)) k7 bel lt7) trodAll_mk0)))))))), rfl, bel.frame _, fun h => by cases h⟩

theorem laidOutP : laidOutB Ybaf.pinned.checked.prog = true := by kernel_rfl
theorem stops : Ybaf.pinned.checked.prog.stops = ["fmt.errorf"] := by kernel_rfl
theorem stopKnobs : Ybaf.pinned.checked.prog.stopKnobs = [] := by kernel_rfl
theorem quiet (os : Os) : Stop.quiet Ybaf.pinned.checked.prog os := by
  intro k hk
  rw [stopKnobs] at hk
  cases hk

/-- THE TOLD AND TIED CARD. -/
theorem proved : Rows.LawS6497CWholeToldSaid :=
  Claim7.holds_of_told_tied_any_at .later 3 Ybaf.f3 "fmt.errorf" [] [] _ _ _ _ _ (by kernel_rfl) rfl rfl rfl laidOutP (by kernel_rfl) rfl ⟨rfl, rfl, rfl, rfl, rfl, rfl, rfl⟩ rfl rfl (by kernel_rfl) (by kernel_rfl) Ybaf.func3 (by kernel_rfl)
    (of_decide_eq_true (by kernel_rfl)) (by unfold Func.isWrapper; first | (rw [if_pos (by decide +kernel)]; kernel_rfl) | (rw [if_neg (by decide +kernel)]; exact ⟨rfl, rfl⟩)) stops.symm rfl stopKnobs.symm (by kernel_rfl)
    (by kernel_rfl) (by kernel_rfl) (by kernel_rfl) (by kernel_rfl) (by kernel_rfl) (by kernel_rfl) (by kernel_rfl) (by kernel_rfl) (by kernel_rfl) rfl (by kernel_rfl) rfl rfl
    rfl rfl
    rfl (by kernel_rfl) (by kernel_rfl) (by kernel_rfl) (by decide) (by kernel_rfl) lawS6497CWhole_row_tie
    (OpenClaim.moreEntering_of (by kernel_rfl) (by kernel_rfl) (by kernel_rfl) (by kernel_rfl) (by kernel_rfl) (by kernel_rfl) (by kernel_rfl) (by kernel_rfl) (by kernel_rfl) (by kernel_rfl))
    ⟨_, WideRow.started_initial, quiet _⟩
    (fun os started _ H enc _ => lifted os started H enc)

#print axioms proved
end Go.Proofs.YbulkednkFmt
