import Derived.Test.YbulkedlgDoorOp
import Derived.Test.YbulkedlgDoorTie
import Derived.Test.YbulkedlgDoorCards
import Derived.SevenTiedAt
import Derived.Test.YbulkedlgDoorLaw
namespace Go.Proofs.YbulkedlgDoor
open Go.ChangeShapes Go.WideShapes Go.ChangeAt Go.RowKit Go.Deep
set_option linter.unusedVariables false

theorem own : ownKnob Ybad.prog.godebug = none := by kernel_rfl
theorem laidOut : laidOutB Ybad.prog = true := by kernel_rfl

set_option maxRecDepth 100000 in
theorem walk_soon (al : Int) (c : Nat) (sz : Nat → Int) (a3 : Option Addr) (n3 c3 : Nat) (a4 : Option Addr) (n c4 : Nat) (w : World) (h : 65536 < n ∨ 1048576 < n3) :
    Calls Ybad.prog 3 #[.int .i64 al, .int .u64 c, .agg (szL sz).toArray, .slice a3 n3 c3, .slice a4 n c4] w fun e w' => e = .returned (.bool true) ∧ Below w.heap.size w w' := by
  by_cases hn : 65536 < n
  · clear h
    go_enter Ybad.func3, Ybad.ntmps3
    go_wp2_with fail
    go_ret
    exact ⟨rfl, (Below.refl _ _).alloc (Nat.le_refl _) _⟩
  · have h3 : 1048576 < n3 := by omega
    have hn' : n ≤ 65536 := by omega
    clear h hn
    go_enter Ybad.func3, Ybad.ntmps3
    go_wp2_with fail
    go_ret
    exact ⟨rfl, (Below.refl _ _).alloc (Nat.le_refl _) _⟩

theorem walk (al : Int) (c : Nat) (sz : Nat → Int) (a3 : Option Addr) (n3 c3 : Nat) (iv : Nat → Int) (a4 : Option Addr) (n c4 : Nat) (fst : Nat → Int) (ab : Nat → Option Addr) (m cb : Nat → Nat) (lst own : Nat → Nat → Int) (w : World)
    (hal : -9223372036854775808 ≤ al ∧ al ≤ 9223372036854775807) (hc : c < 18446744073709551616) (hsz : ∀ q, q < 64 → 0 ≤ sz q ∧ sz q ≤ 255) (hU : ArgU w a3 n3 iv) (hA : ArgSt w a4 n fst ab m cb lst own) (hT : TabAt w) (h0 : 0 < w.heap.size) :
    Calls Ybad.prog 3 #[.int .i64 al, .int .u64 c, .agg (szL sz).toArray, .slice a3 n3 c3, .slice a4 n c4] w fun e w' => e = .returned (.bool true) ∧ Below w.heap.size w w' := by
  by_cases h : 65536 < n ∨ 1048576 < n3
  · exact walk_soon al c sz a3 n3 c3 a4 n c4 w h
  · have hf : ∀ i, i < n → 2 ≤ 2 + (fst i % 62).toNat ∧ 2 + (fst i % 62).toNat ≤ 63 := fun i hi => by
      have := hA.fb i hi
      omega
    obtain ⟨K, Bf, k1, k2, k3⟩ := scans c (fun i => 2 + (fst i % 62).toNat) n hf
    exact lawC_x al c sz a3 n3 c3 iv a4 n c4 fst ab m cb lst own w hal hc hsz hU hA (by omega) (by omega) hT h0 K Bf fun hm =>
      ⟨hc, hf, fun i j hi hj => by show (own i j % 3).toNat < 3; omega, fun i j hi hj => ⟨(hA.lb i j hi hj).1, (hA.lb i j hi hj).2.1⟩, k1, k2, k3, hsz, hal, by show n ≤ 65536; omega, hm⟩

set_option maxRecDepth 100000 in
theorem lifted (os : Os) (started : os.Started) (H : Type) (enc : TypeId × Value → H) :
    ReturnsInHanded {} Ybad.checked os 3 .any (fun w args => (Rows.lawS6493CWholeSpec.pre enc Ybad.prog Ybad.f3 Rows.lawS6493CWholeRow.domain false w args ∧ laidMetH Ybad.prog Rows.lawS6493CWholeRow.laid w) ∧ sizedMet enc Ybad.prog Ybad.f3 (OpenSpec.ofChange Rows.lawS6493CWholeSpec) false w args)
      (Rows.lawS6493CWholeSpec.post enc Ybad.prog Ybad.f3 false true false false) := by
  refine returnsInHanded_of_change_and (C := Ybad.checked) (X := fun w _ => laidMetH Ybad.prog Rows.lawS6493CWholeRow.laid w) (fun _ _ _ hh h => h.of_heap hh) own started (by kernel_rfl) Ybad.func3
    (ChangeSpec.witness_shaped (enc := enc) (C := Ybad.checked) (os := os) (X := fun w _ => laidMetH Ybad.prog Rows.lawS6493CWholeRow.laid w) false (World.laidAll Ybad.prog os Rows.lawS6493CWholeRow.laid) #[.int .i64 0, .int .u64 0, .agg (szL fun _ => 0).toArray, .slice none 0 0, .slice none 0 0] 8 (World.laidAll_os _ _ _)
      (World.shaped_of_ZipB (by kernel_rfl) (by kernel_rfl)) (by kernel_rfl) (by kernel_rfl) (by kernel_rfl)
      (by rw [MakeChecks.laidMetH_plain _ _ _ (by kernel_rfl)]; exact laidMet_laidAll _ (by kernel_rfl) (by kernel_rfl))) ?_
  intro W base args ds gs before hval0 hW hcnd hsz hL _
  have hval : ∀ (j : Nat) t v, Ybad.f3.params[j]? = some t → args[j]? = some v → Value.okWide Ybad.prog W .any base t v := hval0
  have hW' := hW
  obtain ⟨p, q, hA0, hV, rfl, hfz, hnd⟩ := hW
  have hA : DataW.TrodAll enc Ybad.prog W 0 (fun _ => true) true Ybad.f3.params.toList args.toList ds p := hA0
  rw [Ybad.params3] at hA hval
  obtain ⟨v0, vs0, d0, ds0, p0, q0, hargs, rfl, rfl, h0, r0⟩ := trodAll_cons hA
  obtain ⟨v1, vs1, d1, ds1, p1, q1, rfl, rfl, rfl, h1, r1⟩ := trodAll_cons r0
  obtain ⟨v2, vs2, d2, ds2, p2, q2, rfl, rfl, rfl, h2, r2⟩ := trodAll_cons r1
  obtain ⟨v3, vs3, d3, ds3, p3, q3, rfl, rfl, rfl, h3, r3⟩ := trodAll_cons r2
  obtain ⟨v4, vs4, d4, ds4, p4, q4, rfl, rfl, rfl, h4, r4⟩ := trodAll_cons r3
  obtain ⟨rfl, rfl, rfl⟩ := trodAll_nil r4
  obtain rfl : args = #[v0, v1, v2, v3, v4] := by cases args; simp_all
  obtain ⟨rfl, rfl⟩ := trodVars_none hV
  obtain ⟨al, rfl, rfl, rfl, w0⟩ := open_int Ybad.underlying3 (hval 0 3 v0 rfl rfl) h0
  obtain ⟨cz, rfl, rfl, rfl, w1⟩ := open_int Ybad.underlying22 (hval 1 22 v1 rfl rfl) h1
  have w0' := w0
  have w1' := w1
  simp [Lit.wf, IntKind.min, IntKind.max, IntKind.signed, IntKind.bits] at w0' w1'
  obtain ⟨c, rfl⟩ : ∃ c : Nat, cz = c := ⟨cz.toNat, by omega⟩
  have k2 := h2
  have lt2 : ∀ x ∈ p2, x.block < W.heap.size := by obtain ⟨m, hm⟩ := k2; exact DataW.trod_lt m _ _ _ hm
  obtain ⟨sz, e2, hz2⟩ : ∃ sz, v2 = .agg (szL sz).toArray ∧ ∀ q, q < 64 → 0 ≤ sz q ∧ sz q ≤ 255 := by
    have hok := hval 2 23 v2 rfl rfl
    simp only [Value.okWide, Ybad.underlying23] at hok
    obtain ⟨cs, rfl, _⟩ := hok
    obtain ⟨fuel, hf⟩ := h2
    obtain ⟨sz, hcs, hb⟩ := open_sizes hf
    refine ⟨sz, ?_, hb⟩
    have : cs = (szL sz).toArray := by
      apply Array.toList_inj.1
      simpa [Value.cells] using hcs
    rw [this]
  subst e2
  obtain ⟨a3, n3, c3, rfl⟩ := okWide_slice Ybad.underlying24 (hval 3 24 v3 rfl rfl)
  have k3 := h3
  have lt3 : ∀ x ∈ p3, x.block < W.heap.size := by obtain ⟨m, hm⟩ := k3; exact DataW.trod_lt m _ _ _ hm
  obtain ⟨iv, hU⟩ : ∃ iv, ArgU W a3 n3 iv := by
    obtain ⟨fuel, hf⟩ := h3
    rcases open_ints Ybad.underlying24 Ybad.underlying29 (by kernel_rfl) hf with ⟨hcs, _⟩ | ⟨x, l, c, zs, hcs, _, hl, hm, hz, _, hcell, hwz⟩
    · simp [Value.cells] at hcs
      obtain ⟨rfl, rfl, rfl⟩ := hcs
      exact ⟨fun _ => 0, .inl rfl⟩
    · simp [Value.cells] at hcs
      obtain ⟨rfl, rfl, rfl⟩ := hcs
      have hz' : zs.length = c3 := by simpa using hz
      exact ⟨fun j => zs.getD j 0, .inr ⟨_, rfl, fun j hj => hcell j (by omega)⟩⟩
  obtain ⟨a4, n, c4, rfl⟩ := okWide_slice Ybad.underlying25 (hval 4 25 v4 rfl rfl)
  have k4 := h4
  have lt4 : ∀ x ∈ p4, x.block < W.heap.size := by obtain ⟨m, hm⟩ := k4; exact DataW.trod_lt m _ _ _ hm
  have hw4 : ∀ n ∈ d4.weights Ybad.prog 25, n ≤ reachBytes := fun n hn => by
    have := List.all_eq_true.1 hsz _ (DataW.weights_mem_each (j := 4) (t := 25) rfl rfl n hn)
    simpa using this
  obtain ⟨fst, ab, m, cb, lst, ow, hS⟩ : ∃ fst ab m cb lst own, ArgSt W a4 n fst ab m cb lst own := by
    obtain ⟨fuel, hf⟩ := h4
    exact open_starts hf hw4
  have hT := tab_of_laid hL
  have hp : 0 < W.heap.size := World.block_lt_of_cell? _ _ (hT 0 (by decide))
  clear hA0 hval0
  refine (walk al c sz a3 n3 c3 iv a4 n c4 fst ab m cb lst ow W (by omega) (by omega) hz2 hU hS hT hp).mono fun e W' ⟨he, bel⟩ => ?_
  subst he
  exact ⟨_, rfl, _, _, _, [], _, [], hW', trodAll_mk1 (shut_bool Ybad.underlying4 _), (trodAll_cons_mk (shut_int Ybad.underlying3 w0) (trodAll_cons_mk (shut_int Ybad.underlying22 w1) (trodAll_cons_mk (Below.trod laidOut (by kernel_rfl) (of_decide_eq_true (by kernel_rfl)) k2 bel lt2) (trodAll_cons_mk (Below.trod laidOut (by kernel_rfl) (of_decide_eq_true (by kernel_rfl)) k3 bel lt3) (trodAll_cons_mk (Below.trod laidOut (by kernel_rfl) (of_decide_eq_true (by kernel_rfl)) k4 bel lt4) trodAll_mk0))))), rfl, bel.frame _, fun h => by cases h⟩

theorem over : Rows.LawS6493CWholeSaid :=
  OpenClaim.holds_of_wide 3 Ybad.f3 rfl rfl rfl rfl rfl rfl rfl ⟨rfl, rfl, rfl, rfl, rfl⟩ rfl rfl rfl rfl rfl (by kernel_rfl) Ybad.func3 (by kernel_rfl)
    (of_decide_eq_true (by kernel_rfl)) (by unfold Func.isWrapper; first | (rw [if_pos (by decide +kernel)]; kernel_rfl) | (rw [if_neg (by decide +kernel)]; exact ⟨rfl, rfl⟩))
    (fun os started H enc _ => lifted os started H enc)

/-- THE TIED CARD. -/
theorem proved : Rows.LawS6493CWholeCardSaid :=
  Claim7.holds_tied_plain_at .later [] [.data] true (true, "5a5d38c514c085428d1ba1804cfcd1f493e29a8d0574ac49fcbad46a3524e6ea") false
    over (fun _ h => by cases h) (by kernel_rfl) (fun _ h => by cases h) lawS6493CWhole_row_tie rfl ⟨rfl, rfl⟩ (by kernel_rfl) rfl
    (fun f fn hf hfn => by
      obtain rfl : f = 3 := Option.some.inj (Eq.trans hf.symm (by kernel_rfl))
      obtain rfl : fn = Ybad.f3 := (Option.some.inj (Ybad.func3.symm.trans hfn)).symm
      exact ⟨by kernel_rfl, fun j t ht => by
        rw [Ybad.params3] at ht
        rcases j with _ | _ | _ | _ | _ | j
        · obtain rfl : t = 3 := by simpa using ht.symm
          kernel_rfl
        · obtain rfl : t = 22 := by simpa using ht.symm
          kernel_rfl
        · obtain rfl : t = 23 := by simpa using ht.symm
          kernel_rfl
        · obtain rfl : t = 24 := by simpa using ht.symm
          kernel_rfl
        · obtain rfl : t = 25 := by simpa using ht.symm
          kernel_rfl
        · simp at ht⟩)
    (by kernel_rfl)
#print axioms proved
end Go.Proofs.YbulkedlgDoor
