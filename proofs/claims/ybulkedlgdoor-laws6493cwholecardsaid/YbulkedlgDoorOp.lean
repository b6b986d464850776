import Derived.Test.YbulkedlgDoorRows
import Derived.WalkKit
import Derived.ProofKit
import Derived.OpenShut
import Derived.ShutString
import Derived.ChangeOld
import Derived.Below
import Derived.Deep.Slices
import Derived.Deep.SlicePairs
import Derived.Lib.SmallJoins
import Derived.SizedLaws
import Derived.LaidMore
import Derived.Lay
import Derived.Stop.Joined
import Derived.Test.YbulkedlgDoorBd
namespace Go.Proofs.YbulkedlgDoor
open Go.ChangeShapes Go.WideShapes Go.ChangeAt Go.RowKit Go.Deep
set_option linter.unusedVariables false

/-! ### the laid table -/
theorem tab_lit : (Rows.laid_math_bits_deBruijn64tab : DataW Unit) = .agg (Lib.deBruijn64tab.map fun n : Nat => .lit (.int .u8 (Int.ofNat n))) := by rfl
theorem tab_of_laid {W : World} (h : laidMetH Ybad.prog Rows.lawS6493CWholeRow.laid W) : TabAt W := by
  intro r hr
  have hlen : Lib.deBruijn64tab.length = 64 := by rfl
  rw [hlen] at hr
  rw [MakeChecks.laidMetH_plain _ _ _ (by kernel_rfl)] at h
  obtain ⟨ps, ⟨g, t, cs, fuel, p, q, hg, ht, hv, hd, _, _⟩, _, _⟩ := h
  obtain rfl : g = 0 := Option.some.inj (Eq.trans hg.symm (by kernel_rfl))
  obtain rfl : t = 23 := Option.some.inj (Eq.trans ht.symm (by kernel_rfl))
  obtain ⟨xs, m, _, ex, _, hl, hel⟩ := DataW.trod_array Ybad.underlying23 hd
  have c5 : Ybad.prog.cellsOf 5 = 1 := by kernel_rfl
  have hE := hel r hr
  rw [c5, Nat.mul_one, List.getElem?_eq_getElem (by omega)] at hE
  obtain ⟨z, e1, e2, _⟩ := DataW.trod_int Ybad.underlying5 hE
  rw [tab_lit] at ex
  have e3 : (xs.map (·.1)) = Lib.deBruijn64tab.map fun n : Nat => .lit (.int .u8 (Int.ofNat n)) := (DataW.agg.inj (Prod.mk.inj ex).1).symm
  have e4 : (xs.map (·.1))[r]? = (Lib.deBruijn64tab.map fun n : Nat => (DataW.lit (.int .u8 (Int.ofNat n)) : DataW Unit))[r]? := by rw [e3]
  rw [List.getElem?_map, List.getElem?_map, List.getElem?_eq_getElem (by omega : r < xs.length), List.getElem?_eq_getElem (by omega : r < Lib.deBruijn64tab.length), e2] at e4
  have hz : z = (Lib.deBruijn64tab.getD r 0 : Nat) := by
    simp only [Option.map_some, Option.some.injEq, DataW.lit.injEq, Lit.int.injEq, true_and] at e4
    rw [e4, List.getD, List.getElem?_eq_getElem (by omega : r < Lib.deBruijn64tab.length)]; rfl
  rw [World.var?_cell hg hv r, ← hz]
  have : cs.toList[r]? = some (.int .u8 z) := by
    have h0 : ((cs.toList.drop r).take 1)[0]? = some (.int .u8 z) := by rw [e1]; rfl
    simpa using h0
  simpa using this

/-! ### the starts -/
theorem cells28 : Ybad.prog.cellsOf 28 = 2 := by kernel_rfl
theorem cells36 : Ybad.prog.cellsOf 36 = 2 := by kernel_rfl
theorem cells26 : Ybad.prog.cellsOf 26 = 1 := by kernel_rfl
theorem cells34 : Ybad.prog.cellsOf 34 = 1 := by kernel_rfl
theorem cells5 : Ybad.prog.cellsOf 5 = 1 := by kernel_rfl
theorem bytes36 : Ybad.prog.bytesOf 36 = 2 := by kernel_rfl

structure BandsOk (W : World) (ab : Option Addr) (m : Nat) (lst own : Nat → Int) : Prop where
  cells : 0 < m → ∃ b off, ab = some ⟨b, off, none⟩ ∧ b < W.heap.size ∧ ∀ j, j < m → W.cell? ⟨b, off + j * 2, none⟩ = some (.int .i8 (lst j)) ∧ W.cell? ⟨b, off + j * 2 + 1, none⟩ = some (.int .u8 (own j))
  lb : ∀ j, j < m → -128 ≤ lst j ∧ lst j ≤ 127 ∧ 0 ≤ own j ∧ own j ≤ 255

theorem open_bands {H : Type} {enc : TypeId × Value → H} {W : World} {fuel : Nat} {v : Value} {x : DataW H × List MemPlace}
    (h : DataW.trod enc Ybad.prog W 0 (fun _ => true) true fuel 26 [v] = some x) :
    ∃ ab m cb lst own, v = .slice ab m cb ∧ BandsOk W ab m lst own ∧ (m = 0 ∨ ∃ el sp, x.1 = .slice el sp ∧ el.length = m) := by
  rcases open_slice_pairs Ybad.underlying26 Ybad.underlying36 cells36 rfl rfl cells34 cells5 h with ⟨hcs, _⟩ | ⟨ad, l, c, m, n, V0, V1, D0, D1, P0, P1, hcs, _, hlc, hcm, hm, hx, hel⟩
  · simp at hcs
    subst hcs
    exact ⟨none, 0, 0, fun _ => 0, fun _ => 0, rfl, ⟨fun h => by omega, fun j hj => by omega⟩, .inl rfl⟩
  · simp at hcs
    subst hcs
    simp only [if_true] at hm
    subst hm
    obtain ⟨lst, hlst⟩ := choose_lt (α := Int) (n := l) (p := fun i z => V0 i = .int .i8 z ∧ -128 ≤ z ∧ z ≤ 127) (fun i hi => by
      obtain ⟨_, _, h3, _⟩ := hel i (by omega)
      obtain ⟨z, e0, _, w0⟩ := DataW.trod_int Ybad.underlying34 h3
      simp at e0
      refine ⟨z, e0, ?_⟩
      simpa [Lit.wf, IntKind.min, IntKind.max, IntKind.signed, IntKind.bits] using w0)
    obtain ⟨own, hown⟩ := choose_lt (α := Int) (n := l) (p := fun i z => V1 i = .int .u8 z ∧ 0 ≤ z ∧ z ≤ 255) (fun i hi => by
      obtain ⟨_, _, _, h4⟩ := hel i (by omega)
      obtain ⟨z, e0, _, w0⟩ := DataW.trod_int Ybad.underlying5 h4
      simp at e0
      refine ⟨z, e0, ?_⟩
      simpa [Lit.wf, IntKind.min, IntKind.max, IntKind.signed, IntKind.bits] using w0)
    refine ⟨some ad, l, m, lst, own, rfl, ⟨fun h0 => ?_, fun j hj => ?_⟩, .inr ⟨_, _, by rw [hx], by simp⟩⟩
    · obtain ⟨b, off, spot⟩ := ad
      obtain ⟨hc0, _, _, _⟩ := hel 0 (by omega)
      have hspot : spot = none := by simpa [Addr.add] using World.cell?_spot hc0
      subst hspot
      refine ⟨b, off, rfl, ?_, fun j hj => ?_⟩
      · have := World.block_lt_of_cell? _ _ hc0
        simpa [Addr.add] using this
      · obtain ⟨g0, g1, _, _⟩ := hel j (by omega)
        rw [(hlst j hj).1, Addr.add_mid] at g0
        rw [(hown j hj).1, Addr.add_mid] at g1
        exact ⟨g0, g1⟩
    · exact ⟨(hlst j hj).2.1, (hlst j hj).2.2, (hown j hj).2.1, (hown j hj).2.2⟩

theorem weights_all {H : Type} {e : TypeId} : ∀ {l : List (DataW H)} {d : DataW H}, d ∈ l → ∀ n ∈ d.weights Ybad.prog e, n ∈ DataW.weightsAll Ybad.prog e l
  | [], _, h, _, _ => by cases h
  | d0 :: l, d, h, n, hn => by
    unfold DataW.weightsAll
    rcases List.mem_cons.1 h with rfl | h'
    · exact List.mem_append_left _ hn
    · exact List.mem_append_right _ (weights_all h' n hn)

theorem bands_bound {H : Type} {d0 : DataW H} {el sp el' sp' : List (DataW H)} (hsz : ∀ n ∈ (DataW.slice el sp : DataW H).weights Ybad.prog 25, n ≤ reachBytes) (hm : .agg [d0, .slice el' sp'] ∈ el) : el'.length ≤ 70368744175616 := by
  have h1 : (el'.length + sp'.length) * Ybad.prog.bytesOf 36 ∈ (DataW.slice el sp : DataW H).weights Ybad.prog 25 := by
    unfold DataW.weights
    rw [Ybad.underlying25]
    refine List.mem_cons_of_mem _ (List.mem_append_left _ (weights_all hm _ ?_))
    unfold DataW.weights
    rw [Ybad.underlying28]
    refine DataW.weights_mem_each (j := 1) (t := 26) rfl rfl _ ?_
    unfold DataW.weights
    rw [Ybad.underlying26]
    exact List.mem_cons_self
  have h2 := hsz _ h1
  rw [bytes36] at h2
  have h3 : reachBytes = 140737488351232 := rfl
  omega

structure St1 where
  f : Int
  a : Option Addr
  m : Nat
  c : Nat
  l : Nat → Int
  o : Nat → Int

theorem open_starts {H : Type} {enc : TypeId × Value → H} {W : World} {fuel : Nat} {a4 : Option Addr} {n c4 : Nat} {x : DataW H × List MemPlace}
    (h : DataW.trod enc Ybad.prog W 0 (fun _ => true) true fuel 25 [.slice a4 n c4] = some x) (hsz : ∀ n ∈ x.1.weights Ybad.prog 25, n ≤ reachBytes) :
    ∃ fst ab m cb lst own, ArgSt W a4 n fst ab m cb lst own := by
  rcases open_slice_pairs Ybad.underlying25 Ybad.underlying28 cells28 rfl rfl cells5 cells26 h with ⟨hcs, _⟩ | ⟨ad, l, c, m, nf, V0, V1, D0, D1, P0, P1, hcs, _, hlc, hcm, hm, hx, hel⟩
  · simp at hcs
    obtain ⟨rfl, rfl, rfl⟩ := hcs
    exact ⟨fun _ => 0, fun _ => none, fun _ => 0, fun _ => 0, fun _ _ => 0, fun _ _ => 0, ⟨fun j hj => by omega, fun h => by omega, fun j hj => by omega, fun j k hj => by omega, fun j hj => by omega⟩⟩
  · simp at hcs
    obtain ⟨rfl, rfl, rfl⟩ := hcs
    simp only [if_true] at hm
    subst hm
    obtain ⟨S, hS⟩ := @choose_lt St1 ⟨⟨0, none, 0, 0, fun _ => 0, fun _ => 0⟩⟩ n (fun i s => (V0 i = .int .u8 s.f ∧ 0 ≤ s.f ∧ s.f ≤ 255) ∧ V1 i = .slice s.a s.m s.c ∧ BandsOk W s.a s.m s.l s.o ∧ s.m ≤ 70368744175616) (fun i hi => by
      obtain ⟨_, _, h3, h4⟩ := hel i (by omega)
      obtain ⟨z, e0, _, w0⟩ := DataW.trod_int Ybad.underlying5 h3
      simp at e0
      obtain ⟨ab, mm, cb, lst, own, e1, hok, hw⟩ := open_bands h4
      refine ⟨⟨z, ab, mm, cb, lst, own⟩, ⟨e0, ?_⟩, e1, hok, ?_⟩
      · simpa [Lit.wf, IntKind.min, IntKind.max, IntKind.signed, IntKind.bits] using w0
      · show mm ≤ _
        rcases hw with rfl | ⟨el, sp, hd, rfl⟩
        · omega
        · rw [hx] at hsz
          refine bands_bound (d0 := D0 i) (sp' := sp) hsz ?_
          refine List.mem_map.2 ⟨i, List.mem_range.2 hi, ?_⟩
          have hd' : D1 i = .slice el sp := hd
          rw [hd'])
    refine ⟨fun i => (S i).f, fun i => (S i).a, fun i => (S i).m, fun i => (S i).c, fun i => (S i).l, fun i => (S i).o, ?_⟩
    refine ⟨fun i hi => (hS i hi).1.2, fun h0 => ?_, fun i hi => (hS i hi).2.2.1.cells, fun i j hi hj => (hS i hi).2.2.1.lb j hj, fun i hi => (hS i hi).2.2.2⟩
    obtain ⟨b, off, spot⟩ := ad
    obtain ⟨hc0, _, _, _⟩ := hel 0 (by omega)
    have hspot : spot = none := by simpa [Addr.add] using World.cell?_spot hc0
    subst hspot
    refine ⟨b, off, rfl, ?_, fun j hj => ?_⟩
    · have := World.block_lt_of_cell? _ _ hc0
      simpa [Addr.add] using this
    · obtain ⟨g0, g1, _, _⟩ := hel j (by omega)
      rw [(hS j hj).1.1, Addr.add_mid] at g0
      rw [(hS j hj).2.1, Addr.add_mid] at g1
      exact ⟨g0, g1⟩

/-! ### the sizes -/
theorem open_sizes {H : Type} {enc : TypeId × Value → H} {W : World} {fuel : Nat} {cs : List Value} {x : DataW H × List MemPlace}
    (h : DataW.trod enc Ybad.prog W 0 (fun _ => true) true fuel 23 cs = some x) : ∃ sz : Nat → Int, cs = szL sz ∧ ∀ q, q < 64 → 0 ≤ sz q ∧ sz q ≤ 255 := by
  obtain ⟨xs, m, _, _, hcl, hl, hel⟩ := DataW.trod_array Ybad.underlying23 h
  have c23 : Ybad.prog.cellsOf 23 = 64 := by kernel_rfl
  rw [c23] at hcl
  obtain ⟨sz, hsz⟩ := choose_lt (α := Int) (n := 64) (p := fun i z => cs[i]? = some (.int .u8 z) ∧ 0 ≤ z ∧ z ≤ 255) (fun i hi => by
    have hE := hel i hi
    rw [cells5, Nat.mul_one, List.getElem?_eq_getElem (by omega)] at hE
    obtain ⟨z, e1, e2, w0⟩ := DataW.trod_int Ybad.underlying5 hE
    refine ⟨z, ?_, ?_⟩
    · have h0 : ((cs.drop i).take 1)[0]? = some (.int .u8 z) := by rw [e1]; rfl
      simpa using h0
    · simpa [Lit.wf, IntKind.min, IntKind.max, IntKind.signed, IntKind.bits] using w0)
  refine ⟨sz, ?_, fun q hq => (hsz q hq).2⟩
  apply List.ext_getElem?
  intro i
  by_cases hi : i < 64
  · rw [(hsz i hi).1, szL_get sz i hi]
  · rw [List.getElem?_eq_none (by omega), List.getElem?_eq_none (by rw [szL_len]; omega)]

/-! ### the scan's answers -/
theorem scans (c : Nat) (f : Nat → Nat) (n : Nat) (hf : ∀ i, i < n → 2 ≤ f i ∧ f i ≤ 63) : ∃ (K : Nat → Option Nat) (Bf : Nat → Nat), (∀ i, i < n → K i = none → NoK c (f i)) ∧ (∀ i k, i < n → K i = some k → IsK c (f i) k) ∧ ∀ i, i < n → IsB c (f i) (Bf i) := by
  obtain ⟨K, hK⟩ := choose_lt (α := Option Nat) (n := n) (p := fun i o => (o = none → NoK c (f i)) ∧ ∀ k, o = some k → IsK c (f i) k) (fun i hi => by
    rcases scan_up c (64 - f i) (f i) (by have := hf i hi; omega) with h | ⟨k, h⟩
    · exact ⟨none, fun _ => h, fun k hk => by cases hk⟩
    · exact ⟨some k, ⟨fun h0 => (nomatch h0), fun k' hk => by cases hk; exact h⟩⟩)
  obtain ⟨Bf, hB⟩ := choose_lt (α := Nat) (n := n) (p := fun i b => IsB c (f i) b) (fun i hi => scan_down c (f i) (by have := hf i hi; omega))
  exact ⟨K, Bf, fun i hi => (hK i hi).1, fun i k hi => (hK i hi).2 k, hB⟩
end Go.Proofs.YbulkedlgDoor
