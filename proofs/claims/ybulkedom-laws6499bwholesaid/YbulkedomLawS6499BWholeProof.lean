import Derived.Test.YbulkedomRows
import Derived.WalkKit
import Derived.ProofKit
import Derived.OpenShut
import Derived.ShutString
import Derived.ChangeOld
import Derived.Below
import Derived.Deep.Slices
import Derived.Lib.SmallJoins
import Derived.SizedLaws
import Derived.Test.YbulkedomLw
namespace Go.Proofs.Ybulkedom.lawS6499BWhole
open Go.ChangeShapes Go.WideShapes Go.ChangeAt Go.RowKit Go.Deep
open Go.ChangeMaps (open_string shut_string)
set_option linter.unusedVariables false

theorem own : ownKnob Yba.prog.godebug = none := by kernel_rfl
theorem laidOut : laidOutB Yba.prog = true := by kernel_rfl

/-- WHAT THE WALK IS TOLD OF A SLICE OF INTEGERS THAT CAME IN: it is nil; or it leads to a row of 'cap' cells, the numbers 'zs' (the first 'len' are its elements, the rest its spare room), each fitting its kind. -/
def IsRow (k : IntKind) (w : World) (a : Option Addr) (len cap : Nat) (zs : List Int) : Prop :=
  (a = none ∧ len = 0 ∧ cap = 0 ∧ zs = []) ∨
  ∃ x, a = some x ∧ len ≤ cap ∧ cap ≤ maxLen ∧ zs.length = cap ∧ (∀ i, i < zs.length → w.cell? (x.add i) = some (.int k (zs.getD i 0))) ∧ ∀ n ∈ zs, (Lit.int k n).wf = true

theorem slice_shape {H : Type} {enc : TypeId × Value → H} {w : World} {t e : TypeId} {a : Option Addr} {len cap : Nat} {d : DataW H} {p : List MemPlace} (hu : Yba.prog.underlying t = some (.slice e)) (h : DataW.Trod enc Yba.prog w 0 (fun _ => true) true t (.slice a len cap) d p) :
    (len = 0) ∨ ∃ el sp, d = .slice el sp ∧ el.length = len := by
  obtain ⟨fuel, hf⟩ := h
  rcases open_slice hu hf with ⟨hcs, _⟩ | ⟨ad, l, c, m, n, D, Pl, hcs, _, hlc, hcm, hm, hx, hel⟩
  · simp [Value.cells] at hcs
    exact .inl hcs.2.1
  · simp [Value.cells] at hcs
    obtain ⟨rfl, rfl, rfl⟩ := hcs
    simp only [Prod.mk.injEq] at hx
    exact .inr ⟨_, _, hx.1, by simp⟩

theorem len_bound {H : Type} {ts : List TypeId} {ds : List (DataW H)} (hsz : (DataW.weightsEach Yba.prog ts ds).all (· ≤ reachBytes) = true) {j : Nat} {t e : TypeId} {len : Nat} {d : DataW H} (ht : ts[j]? = some t) (hd : ds[j]? = some d) (hu : Yba.prog.underlying t = some (.slice e))
    (hs : (len = 0) ∨ ∃ el sp, d = .slice el sp ∧ el.length = len) (hb : 0 < Yba.prog.bytesOf e) : len ≤ 140737488351232 := by
  rcases hs with rfl | ⟨el, sp, rfl, rfl⟩
  · omega
  · have h := sized_slice hsz ht hd hu
    have h2 : el.length + sp.length ≤ (el.length + sp.length) * Yba.prog.bytesOf e := Nat.le_mul_of_pos_right _ hb
    have h3 : reachBytes = 140737488351232 := rfl
    omega

theorem IsRow.ain {k : IntKind} {w : World} {a : Option Addr} {len cap : Nat} {zs : List Int} (h : IsRow k w a len cap zs) : Ain w k a len (fun j => zs.getD j 0) := by
  rcases h with ⟨_, rfl, _⟩ | ⟨x, rfl, hl, hm, hz, hc, hw⟩
  · exact .inl rfl
  · exact .inr ⟨x, rfl, fun j hj => hc j (by omega)⟩
theorem IsRow.u8 {w : World} {a : Option Addr} {len cap : Nat} {zs : List Int} (h : IsRow .u8 w a len cap zs) : ∀ j, 0 ≤ zs.getD j 0 ∧ zs.getD j 0 ≤ 255 := by
  intro j
  rcases h with ⟨_, _, _, rfl⟩ | ⟨x, rfl, hl, hm, hz, hc, hw⟩
  · simp
  · by_cases hj : j < zs.length
    · have hmem : zs.getD j 0 ∈ zs := by
        rw [List.getD_eq_getElem?_getD, List.getElem?_eq_getElem hj]
        exact List.getElem_mem _
      have := hw _ hmem
      simpa [Lit.wf, IntKind.min, IntKind.max, IntKind.signed, IntKind.bits] using this
    · rw [List.getD_eq_getElem?_getD, List.getElem?_eq_none (by omega)]
      simp

set_option maxRecDepth 100000 in
theorem walk (a0 : ByteArray) (a1 : Option Addr) (len1 cap1 : Nat) (z1 : List Int) (a2 : Option Addr) (len2 cap2 : Nat) (z2 : List Int) (a3 : Int) (a4 : Option Addr) (len4 cap4 : Nat) (z4 : List Int) (a5 : Option Addr) (len5 cap5 : Nat) (z5 : List Int) (w : World) (w1 : IsRow .u8 w a1 len1 cap1 z1) (w2 : IsRow .u8 w a2 len2 cap2 z2) (w3 : (Lit.int .u8 a3).wf = true) (w4 : IsRow .u8 w a4 len4 cap4 z4) (w5 : IsRow .i64 w a5 len5 cap5 z5)
    (b1 : len1 ≤ 140737488351232) (b2 : len2 ≤ 140737488351232) (b4 : len4 ≤ 140737488351232) (b5 : len5 ≤ 140737488351232) :
    Calls Yba.prog 3 #[.string a0, .slice a1 len1 cap1, .slice a2 len2 cap2, .int .u8 a3, .slice a4 len4 cap4, .slice a5 len5 cap5] w fun e w' => e = .returned (.bool true) ∧ Below w.heap.size w w' := by
  simp [Lit.wf, IntKind.min, IntKind.max, IntKind.signed, IntKind.bits] at w3
  by_cases hn : len1 + len2 + len4 + len5 ≤ 4096
  · exact law_x a0 a1 len1 cap1 _ a2 len2 cap2 _ a3 a4 len4 cap4 _ a5 len5 cap5 _ w w1.ain w2.ain w4.ain w5.ain w1.u8 w2.u8 w4.u8 (by omega) (by omega) hn
  · have hn' : (4096 : Int) < (len1 : Int) + (len2 : Int) + (len4 : Int) + (len5 : Int) := by omega
    clear w1 w2 w4 w5 hn
    go_enter Yba.func3, Yba.ntmps3
    go_wp2_with fail
    go_ret
    exact ⟨rfl, Below.refl _ _⟩

set_option maxRecDepth 100000 in
theorem lifted (os : Os) (started : os.Started) (H : Type) (enc : TypeId × Value → H) :
    ReturnsInHanded {} Yba.checked os 3 .any (Rows.lawS6499BWholeSpec.pre6 enc Yba.prog Yba.f3 Rows.lawS6499BWholeRow.domain false) (Rows.lawS6499BWholeSpec.post enc Yba.prog Yba.f3 false true false false) := by
  refine returnsInHanded_of_change_sized (C := Yba.checked) own started (by kernel_rfl) Yba.func3
    (ChangeSpec.witness6 (enc := enc) (C := Yba.checked) false ⟨#[], #[.string ByteArray.empty, .slice none 0 0, .slice none 0 0, .int .u8 0, .slice none 0 0, .slice none 0 0], []⟩ 8 (by kernel_rfl) (by kernel_rfl) (by kernel_rfl) (by kernel_rfl)) ?_
  intro W base args ds gs before hval0 hW hcnd hsz _
  have hval : ∀ (j : Nat) t v, Yba.f3.params[j]? = some t → args[j]? = some v → Value.okWide Yba.prog W .any base t v := hval0
  have hW' := hW
  obtain ⟨p, q, hA0, hV, rfl, hfz, hnd⟩ := hW
  have hA : DataW.TrodAll enc Yba.prog W 0 (fun _ => true) true Yba.f3.params.toList args.toList ds p := hA0
  rw [Yba.params3] at hA hval
  obtain ⟨v0, vs0, d0, ds0, p0, q0, hargs, rfl, rfl, h0, r0⟩ := trodAll_cons hA
  obtain ⟨v1, vs1, d1, ds1, p1, q1, rfl, rfl, rfl, h1, r1⟩ := trodAll_cons r0
  obtain ⟨v2, vs2, d2, ds2, p2, q2, rfl, rfl, rfl, h2, r2⟩ := trodAll_cons r1
  obtain ⟨v3, vs3, d3, ds3, p3, q3, rfl, rfl, rfl, h3, r3⟩ := trodAll_cons r2
  obtain ⟨v4, vs4, d4, ds4, p4, q4, rfl, rfl, rfl, h4, r4⟩ := trodAll_cons r3
  obtain ⟨v5, vs5, d5, ds5, p5, q5, rfl, rfl, rfl, h5, r5⟩ := trodAll_cons r4
  obtain ⟨rfl, rfl, rfl⟩ := trodAll_nil r5
  obtain rfl : args = #[v0, v1, v2, v3, v4, v5] := by cases args; simp_all
  obtain ⟨rfl, rfl⟩ := trodVars_none hV
  obtain ⟨a0, rfl, rfl, rfl, w0⟩ := open_string Yba.underlying9 (hval 0 9 v0 rfl rfl) h0
  obtain ⟨a1, len1, cap1, rfl⟩ := okWide_slice Yba.underlying22 (hval 1 22 v1 rfl rfl)
  have k1 := h1
  have lt1 : ∀ x ∈ p1, x.block < W.heap.size := by obtain ⟨m, hm⟩ := k1; exact DataW.trod_lt m _ _ _ hm
  have b1 : len1 ≤ 140737488351232 := len_bound hsz (j := 1) (t := 22) rfl rfl Yba.underlying22 (slice_shape Yba.underlying22 h1) (by decide +kernel)
  obtain ⟨z1, w1⟩ : ∃ zs, IsRow .u8 W a1 len1 cap1 zs := by
    obtain ⟨fuel, hf⟩ := h1
    rcases open_ints Yba.underlying22 Yba.underlying5 (by kernel_rfl) hf with ⟨hcs, _⟩ | ⟨x, l, c, zs, hcs, _, hl, hm, hz, _, hcell, hwz⟩
    · simp [Value.cells] at hcs
      obtain ⟨rfl, rfl, rfl⟩ := hcs
      exact ⟨[], .inl ⟨rfl, rfl, rfl, rfl⟩⟩
    · simp [Value.cells] at hcs
      obtain ⟨rfl, rfl, rfl⟩ := hcs
      exact ⟨zs, .inr ⟨_, rfl, hl, hm, by simpa using hz, hcell, hwz⟩⟩
  obtain ⟨a2, len2, cap2, rfl⟩ := okWide_slice Yba.underlying22 (hval 2 22 v2 rfl rfl)
  have k2 := h2
  have lt2 : ∀ x ∈ p2, x.block < W.heap.size := by obtain ⟨m, hm⟩ := k2; exact DataW.trod_lt m _ _ _ hm
  have b2 : len2 ≤ 140737488351232 := len_bound hsz (j := 2) (t := 22) rfl rfl Yba.underlying22 (slice_shape Yba.underlying22 h2) (by decide +kernel)
  obtain ⟨z2, w2⟩ : ∃ zs, IsRow .u8 W a2 len2 cap2 zs := by
    obtain ⟨fuel, hf⟩ := h2
    rcases open_ints Yba.underlying22 Yba.underlying5 (by kernel_rfl) hf with ⟨hcs, _⟩ | ⟨x, l, c, zs, hcs, _, hl, hm, hz, _, hcell, hwz⟩
    · simp [Value.cells] at hcs
      obtain ⟨rfl, rfl, rfl⟩ := hcs
      exact ⟨[], .inl ⟨rfl, rfl, rfl, rfl⟩⟩
    · simp [Value.cells] at hcs
      obtain ⟨rfl, rfl, rfl⟩ := hcs
      exact ⟨zs, .inr ⟨_, rfl, hl, hm, by simpa using hz, hcell, hwz⟩⟩
  obtain ⟨a3, rfl, rfl, rfl, w3⟩ := open_int Yba.underlying5 (hval 3 5 v3 rfl rfl) h3
  obtain ⟨a4, len4, cap4, rfl⟩ := okWide_slice Yba.underlying22 (hval 4 22 v4 rfl rfl)
  have k4 := h4
  have lt4 : ∀ x ∈ p4, x.block < W.heap.size := by obtain ⟨m, hm⟩ := k4; exact DataW.trod_lt m _ _ _ hm
  have b4 : len4 ≤ 140737488351232 := len_bound hsz (j := 4) (t := 22) rfl rfl Yba.underlying22 (slice_shape Yba.underlying22 h4) (by decide +kernel)
  obtain ⟨z4, w4⟩ : ∃ zs, IsRow .u8 W a4 len4 cap4 zs := by
    obtain ⟨fuel, hf⟩ := h4
    rcases open_ints Yba.underlying22 Yba.underlying5 (by kernel_rfl) hf with ⟨hcs, _⟩ | ⟨x, l, c, zs, hcs, _, hl, hm, hz, _, hcell, hwz⟩
    · simp [Value.cells] at hcs
      obtain ⟨rfl, rfl, rfl⟩ := hcs
      exact ⟨[], .inl ⟨rfl, rfl, rfl, rfl⟩⟩
    · simp [Value.cells] at hcs
      obtain ⟨rfl, rfl, rfl⟩ := hcs
      exact ⟨zs, .inr ⟨_, rfl, hl, hm, by simpa using hz, hcell, hwz⟩⟩
  obtain ⟨a5, len5, cap5, rfl⟩ := okWide_slice Yba.underlying23 (hval 5 23 v5 rfl rfl)
  have k5 := h5
  have lt5 : ∀ x ∈ p5, x.block < W.heap.size := by obtain ⟨m, hm⟩ := k5; exact DataW.trod_lt m _ _ _ hm
  have b5 : len5 ≤ 140737488351232 := len_bound hsz (j := 5) (t := 23) rfl rfl Yba.underlying23 (slice_shape Yba.underlying23 h5) (by decide +kernel)
  obtain ⟨z5, w5⟩ : ∃ zs, IsRow .i64 W a5 len5 cap5 zs := by
    obtain ⟨fuel, hf⟩ := h5
    rcases open_ints Yba.underlying23 Yba.underlying3 (by kernel_rfl) hf with ⟨hcs, _⟩ | ⟨x, l, c, zs, hcs, _, hl, hm, hz, _, hcell, hwz⟩
    · simp [Value.cells] at hcs
      obtain ⟨rfl, rfl, rfl⟩ := hcs
      exact ⟨[], .inl ⟨rfl, rfl, rfl, rfl⟩⟩
    · simp [Value.cells] at hcs
      obtain ⟨rfl, rfl, rfl⟩ := hcs
      exact ⟨zs, .inr ⟨_, rfl, hl, hm, by simpa using hz, hcell, hwz⟩⟩
  clear hA0 hval0
  refine (walk a0 a1 len1 cap1 z1 a2 len2 cap2 z2 a3 a4 len4 cap4 z4 a5 len5 cap5 z5 W w1 w2 w3 w4 w5 b1 b2 b4 b5).mono fun e W' ⟨he, bel⟩ => ?_
  subst he
  exact ⟨_, rfl, _, _, _, [], _, [], hW', trodAll_mk1 (shut_bool Yba.underlying4 _), (trodAll_cons_mk (shut_string Yba.underlying9 w0) (trodAll_cons_mk (Below.trod laidOut (by kernel_rfl) (of_decide_eq_true (by kernel_rfl)) k1 bel lt1) (trodAll_cons_mk (Below.trod laidOut (by kernel_rfl) (of_decide_eq_true (by kernel_rfl)) k2 bel lt2) (trodAll_cons_mk (shut_int Yba.underlying5 w3) (trodAll_cons_mk (Below.trod laidOut (by kernel_rfl) (of_decide_eq_true (by kernel_rfl)) k4 bel lt4) (trodAll_cons_mk (Below.trod laidOut (by kernel_rfl) (of_decide_eq_true (by kernel_rfl)) k5 bel lt5) trodAll_mk0)))))), rfl, bel.frame _, fun h => by cases h⟩

theorem over : Rows.lawS6499BWholeRow.holds Yba.pinned (OpenSpec.ofChange Rows.lawS6499BWholeSpec) :=
  OpenClaim.holds_of_wide 3 Yba.f3 rfl rfl rfl rfl rfl rfl rfl ⟨rfl, rfl, rfl, rfl, rfl⟩ rfl rfl rfl rfl rfl (by kernel_rfl) Yba.func3 (by kernel_rfl)
    (of_decide_eq_true (by kernel_rfl)) (by unfold Func.isWrapper; first | (rw [if_pos (by decide +kernel)]; kernel_rfl) | (rw [if_neg (by decide +kernel)]; exact ⟨rfl, rfl⟩))
    (fun os started H enc _ => lifted os started H enc)

/-- THE STATEMENT -/
theorem proved : Rows.LawS6499BWholeSaid := over
#print axioms proved
end Go.Proofs.Ybulkedom.lawS6499BWhole
