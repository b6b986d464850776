import Derived.Test.YbulkedlgRows
import Derived.WalkKit
import Derived.ProofKit
import Derived.OpenShut
import Derived.ShutString
import Derived.ChangeOld
import Derived.Below
import Derived.Deep.Slices
import Derived.Lib.SmallJoins
import Derived.SizedLaws
import Derived.Test.YbulkedlgLawB
namespace Go.Proofs.Ybulkedlg.lawS6493BWhole
open Go.ChangeShapes Go.WideShapes Go.ChangeAt Go.RowKit Go.Deep
set_option linter.unusedVariables false

theorem own : ownKnob Yba.prog.godebug = none := by kernel_rfl
theorem laidOut : laidOutB Yba.prog = true := by kernel_rfl
theorem cells70 : Yba.prog.cellsOf 70 = 4 := by kernel_rfl
theorem cells21 : Yba.prog.cellsOf 21 = 1 := by kernel_rfl
theorem cells5 : Yba.prog.cellsOf 5 = 1 := by kernel_rfl
theorem cells4 : Yba.prog.cellsOf 4 = 1 := by kernel_rfl

theorem slice_shape {H : Type} {enc : TypeId × Value → H} {w : World} {t e : TypeId} {a : Option Addr} {len cap : Nat} {d : DataW H} {p : List MemPlace} (hu : Yba.prog.underlying t = some (.slice e)) (h : DataW.Trod enc Yba.prog w 0 (fun _ => true) true t (.slice a len cap) d p) :
    (len = 0) ∨ ∃ el sp, d = .slice el sp ∧ el.length = len := by
  obtain ⟨fuel, hf⟩ := h
  rcases open_slice hu hf with ⟨hcs, _⟩ | ⟨ad, l, c, m, n, D, Pl, hcs, _, hlc, hcm, hm, hx, hel⟩
  · simp [Value.cells] at hcs
    exact .inl hcs.2.1
  · simp [Value.cells] at hcs
    obtain ⟨rfl, rfl, rfl⟩ := hcs
    simp only [Prod.mk.injEq] at hx
    exact .inr ⟨_, _, hx.1, by simp⟩

theorem len_bound {H : Type} {ts : List TypeId} {ds : List (DataW H)} (hsz : (DataW.weightsEach Yba.prog ts ds).all (· ≤ reachBytes) = true) {j : Nat} {t e : TypeId} {len : Nat} {d : DataW H} (ht : ts[j]? = some t) (hd : ds[j]? = some d) (hu : Yba.prog.underlying t = some (.slice e))
    (hs : (len = 0) ∨ ∃ el sp, d = .slice el sp ∧ el.length = len) (hb : 0 < Yba.prog.bytesOf e) : len ≤ 140737488351232 := by
  rcases hs with rfl | ⟨el, sp, rfl, rfl⟩
  · omega
  · have h := sized_slice hsz ht hd hu
    have h2 : el.length + sp.length ≤ (el.length + sp.length) * Yba.prog.bytesOf e := Nat.le_mul_of_pos_right _ hb
    have h3 : reachBytes = 140737488351232 := rfl
    omega

theorem open_row {H : Type} {enc : TypeId × Value → H} {w : World} {base : Nat} {spare : Nat → Bool} {held : Bool} {fuel : Nat} {cs : List Value} {x : DataW H × List MemPlace} (h : DataW.trod enc Yba.prog w base spare held fuel 70 cs = some x) :
    ∃ d : RwD, cs = rowOf d := by
  obtain ⟨y0, y1, y2, y3, n, _, hl, h0, h1, h2, h3⟩ := Go.Joins.trod_struct4 Yba.underlying70 h
  simp only [cells70, cells21, cells5, cells4] at hl h0 h1 h2 h3
  obtain ⟨c, e0, _, w0⟩ := DataW.trod_int Yba.underlying21 h0
  obtain ⟨p, e1, _, w1⟩ := DataW.trod_int Yba.underlying5 h1
  obtain ⟨r, e2, _, w2⟩ := DataW.trod_int Yba.underlying5 h2
  obtain ⟨f, e3, _⟩ := DataW.trod_bool Yba.underlying4 h3
  refine ⟨⟨c, p, r, f⟩, ?_⟩
  match cs, hl with
  | [a0, a1, a2, a3], _ =>
    simp at e0 e1 e2 e3
    simp [rowOf, cRow, e0, e1, e2, e3]

theorem open_arg {H : Type} {enc : TypeId × Value → H} {w : World} {fuel : Nat} {a : Option Addr} {len cap : Nat} {x : DataW H × List MemPlace}
    (h : DataW.trod enc Yba.prog w 0 (fun _ => true) true fuel 36 [.slice a len cap] = some x) : ∃ D, ArgR w a len D := by
  rcases open_slice Yba.underlying36 h with ⟨hcs, _⟩ | ⟨ad, l, c, m, n, D, Pl, hcs, _, hlc, hcm, hm, _, hel⟩
  · simp at hcs
    obtain ⟨rfl, rfl, rfl⟩ := hcs
    exact ⟨fun _ => ⟨0, 0, 0, false⟩, fun _ => rfl, by simp⟩
  · simp at hcs
    obtain ⟨rfl, rfl, rfl⟩ := hcs
    simp only [if_true] at hm
    subst hm
    rw [cells70] at hel
    obtain ⟨V, hV⟩ := @choose_lt RwD ⟨⟨0, 0, 0, false⟩⟩ len (fun i d => w.cells? 0 (ad.add (i * 4)) 4 = some (rowOf d)) (fun i hi => by
      obtain ⟨cs', h1, h2⟩ := hel i (by omega)
      obtain ⟨d, rfl⟩ := open_row h2
      exact ⟨d, h1⟩)
    refine ⟨V, by simp, fun h0 => ?_⟩
    obtain ⟨b, off, spot⟩ := ad
    obtain ⟨_, _, hc0⟩ := World.cells?_some (hV 0 h0)
    have hc00 := hc0 0 (by omega)
    have hsome : w.cell? (((⟨b, off, spot⟩ : Addr).add (0 * 4)).add 0) = some (.int .i32 (V 0).c) := by rw [hc00]; rfl
    have hspot : spot = none := by simpa [Addr.add] using World.cell?_spot hsome
    subst hspot
    refine ⟨b, off, rfl, ?_, fun k hk j v hv => ?_⟩
    · have := World.block_lt_of_cell? _ _ hsome
      simpa [Addr.add] using this
    · obtain ⟨_, hlen, hc⟩ := World.cells?_some (hV k hk)
      have hj : j < 4 := by rw [← hlen]; exact (List.getElem?_eq_some_iff.1 hv).1
      have := hc j hj
      rw [Addr.add_mid, Addr.add_mid] at this
      rw [this]; exact hv

set_option maxRecDepth 100000 in
theorem walk (a0 : Int) (a1 : Bool) (ad : Option Addr) (nd cd : Nat) (dz : Nat → Int) (ai : Option Addr) (ni ci : Nat) (Di : Nat → RwD) (ao : Option Addr) (no co : Nat) (Do : Nat → RwD) (a5 : Bool) (w : World)
    (w0 : (Lit.int .u8 a0).wf = true) (hd : ArgI w ad nd dz) (hi : ArgR w ai ni Di) (ho : ArgR w ao no Do) (b1 : nd ≤ 140737488351232) (b2 : ni ≤ 140737488351232) (b3 : no ≤ 140737488351232) :
    Calls Yba.prog 4 #[.int .u8 a0, .bool a1, .slice ad nd cd, .slice ai ni ci, .slice ao no co, .bool a5] w fun e w' => e = .returned (.bool true) ∧ Below w.heap.size w w' := by
  simp [Lit.wf, IntKind.min, IntKind.max, IntKind.signed, IntKind.bits] at w0
  by_cases hn : nd + ni + no ≤ 1048576
  · exact lawB_x a0 a1 ad nd cd dz ai ni ci Di ao no co Do a5 w (by omega) (by omega) hd hi ho hn
  · have hn' : 1048576 < nd + ni + no := by omega
    clear hd hi ho hn
    go_enter Yba.func4, Yba.ntmps4
    go_wp2_with fail
    go_ret
    exact ⟨rfl, Below.refl _ _⟩

set_option maxRecDepth 100000 in
theorem lifted (os : Os) (started : os.Started) (H : Type) (enc : TypeId × Value → H) :
    ReturnsInHanded {} Yba.checked os 4 .any (Rows.lawS6493BWholeSpec.pre6 enc Yba.prog Yba.f4 Rows.lawS6493BWholeRow.domain false) (Rows.lawS6493BWholeSpec.post enc Yba.prog Yba.f4 false true false false) := by
  refine returnsInHanded_of_change_sized (C := Yba.checked) own started (by kernel_rfl) Yba.func4
    (ChangeSpec.witness6 (enc := enc) (C := Yba.checked) false ⟨#[], #[.int .u8 0, .bool false, .slice none 0 0, .slice none 0 0, .slice none 0 0, .bool false], []⟩ 8 (by kernel_rfl) (by kernel_rfl) (by kernel_rfl) (by kernel_rfl)) ?_
  intro W base args ds gs before hval0 hW hcnd hsz _
  have hval : ∀ (j : Nat) t v, Yba.f4.params[j]? = some t → args[j]? = some v → Value.okWide Yba.prog W .any base t v := hval0
  have hW' := hW
  obtain ⟨p, q, hA0, hV, rfl, hfz, hnd⟩ := hW
  have hA : DataW.TrodAll enc Yba.prog W 0 (fun _ => true) true Yba.f4.params.toList args.toList ds p := hA0
  rw [Yba.params4] at hA hval
  obtain ⟨v0, vs0, d0, ds0, p0, q0, hargs, rfl, rfl, h0, r0⟩ := trodAll_cons hA
  obtain ⟨v1, vs1, d1, ds1, p1, q1, rfl, rfl, rfl, h1, r1⟩ := trodAll_cons r0
  obtain ⟨v2, vs2, d2, ds2, p2, q2, rfl, rfl, rfl, h2, r2⟩ := trodAll_cons r1
  obtain ⟨v3, vs3, d3, ds3, p3, q3, rfl, rfl, rfl, h3, r3⟩ := trodAll_cons r2
  obtain ⟨v4, vs4, d4, ds4, p4, q4, rfl, rfl, rfl, h4, r4⟩ := trodAll_cons r3
  obtain ⟨v5, vs5, d5, ds5, p5, q5, rfl, rfl, rfl, h5, r5⟩ := trodAll_cons r4
  obtain ⟨rfl, rfl, rfl⟩ := trodAll_nil r5
  obtain rfl : args = #[v0, v1, v2, v3, v4, v5] := by cases args; simp_all
  obtain ⟨rfl, rfl⟩ := trodVars_none hV
  obtain ⟨a0, rfl, rfl, rfl, w0⟩ := open_int Yba.underlying5 (hval 0 5 v0 rfl rfl) h0
  obtain ⟨a1, rfl, rfl, rfl⟩ := open_bool Yba.underlying4 (hval 1 4 v1 rfl rfl) h1
  obtain ⟨a2, len2, cap2, rfl⟩ := okWide_slice Yba.underlying35 (hval 2 35 v2 rfl rfl)
  have k2 := h2
  have lt2 : ∀ x ∈ p2, x.block < W.heap.size := by obtain ⟨m, hm⟩ := k2; exact DataW.trod_lt m _ _ _ hm
  have b2 : len2 ≤ 140737488351232 := len_bound hsz (j := 2) (t := 35) rfl rfl Yba.underlying35 (slice_shape Yba.underlying35 h2) (by decide +kernel)
  obtain ⟨dz, w2⟩ : ∃ dz, ArgI W a2 len2 dz := by
    obtain ⟨fuel, hf⟩ := h2
    rcases open_ints Yba.underlying35 Yba.underlying62 (by kernel_rfl) hf with ⟨hcs, _⟩ | ⟨x, l, c, zs, hcs, _, hl, hm, hz, _, hcell, hwz⟩
    · simp [Value.cells] at hcs
      obtain ⟨rfl, rfl, rfl⟩ := hcs
      exact ⟨fun _ => 0, by intro j hj; omega, .inl rfl⟩
    · simp [Value.cells] at hcs
      obtain ⟨rfl, rfl, rfl⟩ := hcs
      have hz' : zs.length = cap2 := by simpa using hz
      refine ⟨fun j => zs.getD j 0, fun j hj => ?_, .inr ⟨_, rfl, fun j hj => hcell j (by omega)⟩⟩
      have hmem : zs.getD j 0 ∈ zs := by
        rw [List.getD_eq_getElem?_getD, List.getElem?_eq_getElem (by omega)]
        exact List.getElem_mem _
      have := hwz _ hmem
      simpa [Lit.wf, IntKind.min, IntKind.max, IntKind.signed, IntKind.bits] using this
  obtain ⟨a3, len3, cap3, rfl⟩ := okWide_slice Yba.underlying36 (hval 3 36 v3 rfl rfl)
  have k3 := h3
  have lt3 : ∀ x ∈ p3, x.block < W.heap.size := by obtain ⟨m, hm⟩ := k3; exact DataW.trod_lt m _ _ _ hm
  have b3 : len3 ≤ 140737488351232 := len_bound hsz (j := 3) (t := 36) rfl rfl Yba.underlying36 (slice_shape Yba.underlying36 h3) (by decide +kernel)
  obtain ⟨D3, w3⟩ : ∃ D, ArgR W a3 len3 D := by
    obtain ⟨fuel, hf⟩ := h3
    exact open_arg hf
  obtain ⟨a4, len4, cap4, rfl⟩ := okWide_slice Yba.underlying36 (hval 4 36 v4 rfl rfl)
  have k4 := h4
  have lt4 : ∀ x ∈ p4, x.block < W.heap.size := by obtain ⟨m, hm⟩ := k4; exact DataW.trod_lt m _ _ _ hm
  have b4 : len4 ≤ 140737488351232 := len_bound hsz (j := 4) (t := 36) rfl rfl Yba.underlying36 (slice_shape Yba.underlying36 h4) (by decide +kernel)
  obtain ⟨D4, w4⟩ : ∃ D, ArgR W a4 len4 D := by
    obtain ⟨fuel, hf⟩ := h4
    exact open_arg hf
  obtain ⟨a5, rfl, rfl, rfl⟩ := open_bool Yba.underlying4 (hval 5 4 v5 rfl rfl) h5
  clear hA0 hval0
  refine (walk a0 a1 a2 len2 cap2 dz a3 len3 cap3 D3 a4 len4 cap4 D4 a5 W w0 w2 w3 w4 b2 b3 b4).mono fun e W' ⟨he, bel⟩ => ?_
  subst he
  exact ⟨_, rfl, _, _, _, [], _, [], hW', trodAll_mk1 (shut_bool Yba.underlying4 _), (trodAll_cons_mk (shut_int Yba.underlying5 w0) (trodAll_cons_mk (shut_bool Yba.underlying4 _) (trodAll_cons_mk (Below.trod laidOut (by kernel_rfl) (of_decide_eq_true (by kernel_rfl)) k2 bel lt2) (trodAll_cons_mk (Below.trod laidOut (by kernel_rfl) (of_decide_eq_true (by kernel_rfl)) k3 bel lt3) (trodAll_cons_mk (Below.trod laidOut (by kernel_rfl) (of_decide_eq_true (by kernel_rfl)) k4 bel lt4) (trodAll_cons_mk (shut_bool Yba.underlying4 _) trodAll_mk0)))))), rfl, bel.frame _, fun h => by cases h⟩

theorem over : Rows.lawS6493BWholeRow.holds Yba.pinned (OpenSpec.ofChange Rows.lawS6493BWholeSpec) :=
  OpenClaim.holds_of_wide 4 Yba.f4 rfl rfl rfl rfl rfl rfl rfl ⟨rfl, rfl, rfl, rfl, rfl⟩ rfl rfl rfl rfl rfl (by kernel_rfl) Yba.func4 (by kernel_rfl)
    (of_decide_eq_true (by kernel_rfl)) (by unfold Func.isWrapper; first | (rw [if_pos (by decide +kernel)]; kernel_rfl) | (rw [if_neg (by decide +kernel)]; exact ⟨rfl, rfl⟩))
    (fun os started H enc _ => lifted os started H enc)

/-- THE STATEMENT -/
theorem proved : Rows.LawS6493BWholeSaid := over
#print axioms proved
end Go.Proofs.Ybulkedlg.lawS6493BWhole
