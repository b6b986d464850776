import Derived.Test.YbulkedksFmtLaw
import Derived.Test.YbulkedksFmtOpen
import Derived.Test.YbulkedksFmtCards
import Derived.Stop.JoinedAt
import Derived.Stop.JoinedTold
import Derived.SevenToldRow
namespace Go.Proofs.YbulkedksFmt
open Go.ChangeShapes Go.WideShapes Go.ChangeAt Go.RowKit
open Go.ChangeMaps (open_string shut_string)
open Go.Extern.Stop Go.Stop Go.Extern
set_option linter.unusedVariables false

theorem Ybaf.own : ownKnob Ybaf.prog.godebug = none := by kernel_rfl
theorem Ybaf.laidOut : laidOutB Ybaf.prog = true := by kernel_rfl

set_option maxRecDepth 100000 in
set_option maxHeartbeats 1000000 in
theorem law_far (addr mid id : ByteArray) (im sm : Int) (hs : List UInt8) (size cs : Int) (a : Option Addr) (n cap : Nat) (last : Int) (comp : Bool) (hv : Int) (w : World) (hn : 1048576 < n) :
    Calls Ybaf.prog 3 #[.string addr, .string mid, .string id, .int .u8 im, .int .u8 sm, .agg (hs.map cell).toArray, .int .i64 size, .int .i64 cs, .slice a n cap, .int .i64 last, .bool comp, .int .i64 hv] w fun e w1 => e = .returned (.bool true) ∧ Below w.heap.size w w1 := by
  generalize hs.map cell = HL
  go_enter Ybaf.func3, Ybaf.ntmps3
  go_wp2_with fail
  go_ret
  exact ⟨rfl, (Below.refl _ _).alloc (Nat.le_refl _) _⟩

set_option maxRecDepth 100000 in
theorem lifted (os : Os) (started : os.Started) (H : Type) (enc : TypeId × Value → H) :
    ReturnsInTold none {} Ybaf.checked os 3 .any Input.okWide ((OpenSpec.ofChange Rows.lawS6492CWholeSpec).preRow enc Ybaf.prog Ybaf.f3 [] false []) (fun F => ((OpenSpec.ofChange Rows.lawS6492CWholeSpec).at F).post enc Ybaf.prog Ybaf.f3 false true false false) (aloneAtReturn Ybaf.prog) nothingAlways := by
  refine returnsInTold_of_row (C := Ybaf.checked) (s := OpenSpec.ofChange Rows.lawS6492CWholeSpec) (by kernel_rfl) Ybaf.own started (by kernel_rfl) Ybaf.func3
    (OpenSpec.witness_stopped (enc := enc) (C := Ybaf.checked) false ⟨#[], #[.string ⟨#[]⟩, .string ⟨#[]⟩, .string ⟨#[]⟩, .int .u8 0, .int .u8 0, .agg (Array.replicate 32 (.int .u8 0)), .int .i64 0, .int .i64 0, .slice none 0 0, .int .i64 0, .bool false, .int .i64 0], []⟩ 8 (by kernel_rfl) (by kernel_rfl) (by kernel_rfl) (by kernel_rfl)) ?_
  intro F W base args ds gs before _ hF hval0 hW _ _ _ _ _
  have hval : ∀ (j : Nat) t v, Ybaf.f3.params[j]? = some t → args[j]? = some v → Value.okWide Ybaf.prog W .any base t v := hval0
  have hW' := hW
  obtain ⟨p, q, hA0, hV, rfl, hfz, hnd⟩ := hW
  have hA : DataW.TrodAll enc Ybaf.prog W 0 (fun _ => true) true Ybaf.f3.params.toList args.toList ds p := hA0
  rw [Ybaf.params3] at hA hval
  obtain ⟨v0, vs0, d0, ds0, p0, q0, hargs, rfl, rfl, h0, r0⟩ := trodAll_cons hA
  obtain ⟨v1, vs1, d1, ds1, p1, q1, rfl, rfl, rfl, h1, r1⟩ := trodAll_cons r0
  obtain ⟨v2, vs2, d2, ds2, p2, q2, rfl, rfl, rfl, h2, r2⟩ := trodAll_cons r1
  obtain ⟨v3, vs3, d3, ds3, p3, q3, rfl, rfl, rfl, h3, r3⟩ := trodAll_cons r2
  obtain ⟨v4, vs4, d4, ds4, p4, q4, rfl, rfl, rfl, h4, r4⟩ := trodAll_cons r3
  obtain ⟨v5, vs5, d5, ds5, p5, q5, rfl, rfl, rfl, h5, r5⟩ := trodAll_cons r4
  obtain ⟨v6, vs6, d6, ds6, p6, q6, rfl, rfl, rfl, h6, r6⟩ := trodAll_cons r5
  obtain ⟨v7, vs7, d7, ds7, p7, q7, rfl, rfl, rfl, h7, r7⟩ := trodAll_cons r6
  obtain ⟨v8, vs8, d8, ds8, p8, q8, rfl, rfl, rfl, h8, r8⟩ := trodAll_cons r7
  obtain ⟨v9, vs9, d9, ds9, p9, q9, rfl, rfl, rfl, h9, r9⟩ := trodAll_cons r8
  obtain ⟨v10, vs10, d10, ds10, p10, q10, rfl, rfl, rfl, h10, r10⟩ := trodAll_cons r9
  obtain ⟨v11, vs11, d11, ds11, p11, q11, rfl, rfl, rfl, h11, r11⟩ := trodAll_cons r10
  obtain ⟨rfl, rfl, rfl⟩ := trodAll_nil r11
  obtain rfl : args = #[v0, v1, v2, v3, v4, v5, v6, v7, v8, v9, v10, v11] := by cases args; simp_all
  obtain ⟨rfl, rfl⟩ := trodVars_none hV
  obtain ⟨s0, rfl, rfl, rfl, w0⟩ := open_string Ybaf.underlying9 (hval 0 9 v0 rfl rfl) h0
  obtain ⟨s1, rfl, rfl, rfl, w1⟩ := open_string Ybaf.underlying9 (hval 1 9 v1 rfl rfl) h1
  obtain ⟨s2, rfl, rfl, rfl, w2⟩ := open_string Ybaf.underlying9 (hval 2 9 v2 rfl rfl) h2
  obtain ⟨a3, rfl, rfl, rfl, w3⟩ := open_int Ybaf.underlying5 (hval 3 5 v3 rfl rfl) h3
  obtain ⟨a4, rfl, rfl, rfl, w4⟩ := open_int Ybaf.underlying5 (hval 4 5 v4 rfl rfl) h4
  have k5 := h5
  have lt5 : ∀ x ∈ p5, x.block < W.heap.size := by obtain ⟨m, hm⟩ := k5; exact DataW.trod_lt m _ _ _ hm
  obtain ⟨hs, hl5, rfl⟩ : ∃ hs : List UInt8, hs.length = 32 ∧ v5 = .agg (hs.map cell).toArray := by
    have hok := hval 5 22 v5 rfl rfl
    simp only [Value.okWide, Ybaf.underlying22] at hok
    obtain ⟨cs, rfl, _, _⟩ := hok
    obtain ⟨m, hm⟩ := h5
    obtain ⟨hs, hl, e⟩ := open_hash (cs := cs.toList) (by simpa [Value.cells] using hm)
    exact ⟨hs, hl, by rw [← e]⟩
  obtain ⟨a6, rfl, rfl, rfl, w6⟩ := open_int Ybaf.underlying2 (hval 6 2 v6 rfl rfl) h6
  obtain ⟨a7, rfl, rfl, rfl, w7⟩ := open_int Ybaf.underlying2 (hval 7 2 v7 rfl rfl) h7
  obtain ⟨a8, len8, cap8, rfl⟩ := okWide_slice Ybaf.underlying23 (hval 8 23 v8 rfl rfl)
  have k8 := h8
  have lt8 : ∀ x ∈ p8, x.block < W.heap.size := by obtain ⟨m, hm⟩ := k8; exact DataW.trod_lt m _ _ _ hm
  obtain ⟨cks, hA8⟩ : ∃ cks, ArgAt W a8 len8 cks := by
    obtain ⟨fuel, hf⟩ := h8
    exact open_arg (by simpa [Value.cells] using hf)
  obtain ⟨a9, rfl, rfl, rfl, w9⟩ := open_int Ybaf.underlying2 (hval 9 2 v9 rfl rfl) h9
  obtain ⟨a10, rfl, rfl, rfl⟩ := open_bool Ybaf.underlying4 (hval 10 4 v10 rfl rfl) h10
  obtain ⟨a11, rfl, rfl, rfl, w11⟩ := open_int Ybaf.underlying3 (hval 11 3 v11 rfl rfl) h11
  clear hA0 hval0
  have walk : Calls Ybaf.prog 3 #[.string s0, .string s1, .string s2, .int .u8 a3, .int .u8 a4, .agg (hs.map cell).toArray, .int .i64 a6, .int .i64 a7, .slice a8 len8 cap8, .int .i64 a9, .bool a10, .int .i64 a11] W fun e w1 => e = .returned (.bool true) ∧ Below W.heap.size W w1 := by
    by_cases hn : len8 ≤ 1048576
    · exact law_x s0 s1 s2 a3 a4 hs a6 a7 a8 len8 cap8 a9 a10 a11 W hn w1 hl5 cks hA8 w6 w7
    · exact law_far s0 s1 s2 a3 a4 hs a6 a7 a8 len8 cap8 a9 a10 a11 W (by omega)
  refine walk.mono fun e W' ⟨he, bel⟩ => ?_
  subst he
  exact ⟨_, rfl, _, _, _, [], _, [], hW', trodAll_mk1 (shut_bool Ybaf.underlying4 _), (trodAll_cons_mk (shut_string Ybaf.underlying9 w0) (trodAll_cons_mk (shut_string Ybaf.underlying9 w1) (trodAll_cons_mk (shut_string Ybaf.underlying9 w2) (trodAll_cons_mk (shut_int Ybaf.underlying5 w3) (trodAll_cons_mk (shut_int Ybaf.underlying5 w4) (trodAll_cons_mk (Below.trod Ybaf.laidOut (by kernel_rfl) (of_decide_eq_true (by kernel_rfl)) k5 bel lt5) (trodAll_cons_mk (shut_int Ybaf.underlying2 w6) (trodAll_cons_mk (shut_int Ybaf.underlying2 w7) (trodAll_cons_mk (Below.trod Ybaf.laidOut (by kernel_rfl) (of_decide_eq_true (by kernel_rfl)) k8 bel lt8) (trodAll_cons_mk (shut_int Ybaf.underlying2 w9) (trodAll_cons_mk (shut_bool Ybaf.underlying4 _) (trodAll_cons_mk (shut_int Ybaf.underlying3 w11) trodAll_mk0)))))))))))), rfl, bel.frame _, fun h => by cases h⟩

theorem Ybaf.laidOutP : laidOutB Ybaf.pinned.checked.prog = true := by kernel_rfl
theorem Ybaf.stops : Ybaf.pinned.checked.prog.stops = ["fmt.errorf"] := by kernel_rfl
theorem Ybaf.stopKnobs : Ybaf.pinned.checked.prog.stopKnobs = [] := by kernel_rfl
theorem Ybaf.quiet (os : Os) : Stop.quiet Ybaf.pinned.checked.prog os := by
  intro k hk
  rw [Ybaf.stopKnobs] at hk
  cases hk

theorem proved : Rows.LawS6492CWholeToldSaid :=
  Claim7.holds_of_told_any 3 Ybaf.f3 "fmt.errorf" [] [] _ _ _ (by kernel_rfl) rfl rfl rfl Ybaf.laidOutP (by kernel_rfl) rfl ⟨rfl, rfl, rfl, rfl, rfl, rfl, rfl⟩ rfl rfl (by kernel_rfl) (by kernel_rfl) Ybaf.func3 (by kernel_rfl)
    (of_decide_eq_true (by kernel_rfl)) (by unfold Func.isWrapper; first | (rw [if_pos (by decide +kernel)]; kernel_rfl) | (rw [if_neg (by decide +kernel)]; exact ⟨rfl, rfl⟩)) Ybaf.stops.symm rfl Ybaf.stopKnobs.symm (by kernel_rfl)
    (by kernel_rfl) (by kernel_rfl) (by kernel_rfl) (by kernel_rfl) (by kernel_rfl) (by kernel_rfl) (by kernel_rfl) (by kernel_rfl) (by kernel_rfl) rfl (by kernel_rfl) rfl rfl
    rfl rfl
    rfl (by kernel_rfl) (by kernel_rfl) (by kernel_rfl) (by decide) (by kernel_rfl)
    (OpenClaim.moreEntering_of (by kernel_rfl) (by kernel_rfl) (by kernel_rfl) (by kernel_rfl) (by kernel_rfl) (by kernel_rfl) (by kernel_rfl) (by kernel_rfl) (by kernel_rfl) (by kernel_rfl))
    ⟨_, WideRow.started_initial, Ybaf.quiet _⟩
    (fun os started _ H enc _ => lifted os started H enc)

#print axioms proved
end Go.Proofs.YbulkedksFmt
