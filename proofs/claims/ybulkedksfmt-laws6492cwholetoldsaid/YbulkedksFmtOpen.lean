import Derived.Test.YbulkedksFmtRow
import Derived.ProofKit
import Derived.OpenShut
import Derived.ShutString
import Derived.ChangeOld
import Derived.Deep.Slices
import Derived.Deep.Strs
namespace Go.Proofs.YbulkedksFmt
open Go.ChangeShapes Go.WideShapes Go.ChangeAt Go.RowKit
open Go.Extern.Stop Go.Stop Go.Extern Go.Deep
set_option linter.unusedVariables false

section
variable {H : Type} {enc : TypeId × Value → H} {w : World} {base : Nat} {spare : Nat → Bool} {held : Bool}

theorem cells_bytes : ∀ cs : List Value, (∀ i, i < cs.length → ∃ n, (cs.drop i).take 1 = [.int .u8 n] ∧ (Lit.int .u8 n).wf = true) → ∃ hs : List UInt8, cs = hs.map cell
  | [], _ => ⟨[], rfl⟩
  | v :: r, h => by
    obtain ⟨n, hn, wn⟩ := h 0 (by simp)
    obtain ⟨hs, rfl⟩ := cells_bytes r (fun i hi => by simpa using h (i + 1) (by simpa using hi))
    simp at hn
    have hb : 0 ≤ n ∧ n ≤ 255 := by simpa [Lit.wf, IntKind.min, IntKind.max, IntKind.signed, IntKind.bits] using wn
    refine ⟨UInt8.ofNat n.toNat :: hs, ?_⟩
    have e : (UInt8.ofNat n.toNat).toNat = n.toNat := by simp; omega
    simp [hn, cell, e]
    omega

theorem Ybaf.cells5 : Ybaf.prog.cellsOf 5 = 1 := by kernel_rfl
theorem Ybaf.cells22 : Ybaf.prog.cellsOf 22 = 32 := by kernel_rfl
theorem Ybaf.cells29 : Ybaf.prog.cellsOf 29 = 34 := by kernel_rfl
theorem Ybaf.cells2 : Ybaf.prog.cellsOf 2 = 1 := by kernel_rfl

theorem open_hash {fuel : Nat} {cs : List Value} {x : DataW H × List MemPlace} (h : DataW.trod enc Ybaf.prog w base spare held fuel 22 cs = some x) : ∃ hs : List UInt8, hs.length = 32 ∧ cs = hs.map cell := by
  obtain ⟨xs, m, _, _, hl, hx, hi⟩ := DataW.trod_array Ybaf.underlying22 h
  rw [Ybaf.cells22] at hl
  rw [Ybaf.cells5] at hi
  obtain ⟨hs, rfl⟩ := cells_bytes cs (fun i hlt => by
    have := hi i (by omega)
    rw [List.getElem?_eq_getElem (by omega), Nat.mul_one] at this
    obtain ⟨n, e, _, wn⟩ := DataW.trod_int Ybaf.underlying5 this
    exact ⟨n, e, wn⟩)
  exact ⟨hs, by simpa using hl, rfl⟩

theorem open_ck {fuel : Nat} {cs : List Value} {x : DataW H × List MemPlace} (h : DataW.trod enc Ybaf.prog w base spare held fuel 29 cs = some x) :
    ∃ c : Ck, cs = c.cells ∧ c.hs.length = 32 ∧ (Lit.int .i64 c.off).wf = true ∧ (Lit.int .i64 c.len).wf = true := by
  obtain ⟨y0, y1, y2, n, _, hl, h0, h1, h2⟩ := trod_struct3 Ybaf.underlying29 h
  simp only [Ybaf.cells29, Ybaf.cells2, Ybaf.cells22] at hl h0 h1 h2
  obtain ⟨o, e0, _, w0⟩ := DataW.trod_int Ybaf.underlying2 h0
  obtain ⟨l, e1, _, w1⟩ := DataW.trod_int Ybaf.underlying2 h1
  obtain ⟨hs, hl2, e2⟩ := open_hash h2
  refine ⟨⟨o, l, hs⟩, ?_, hl2, w0, w1⟩
  match cs, hl with
  | a :: b :: r, hl =>
    simp at e0 e1 e2 hl
    rw [List.take_of_length_le (by omega)] at e2
    simp [Ck.cells, e0, e1, e2]
end

theorem choose_cks : ∀ (n : Nat) (p : Nat → Ck → Prop), (∀ i, i < n → ∃ c, p i c) → ∃ l : List Ck, l.length = n ∧ ∀ k (h : k < l.length), p k l[k]
  | 0, _, _ => ⟨[], rfl, by simp⟩
  | n + 1, p, h => by
    obtain ⟨l, hl, hp⟩ := choose_cks n p (fun i hi => h i (by omega))
    obtain ⟨c, hc⟩ := h n (by omega)
    refine ⟨l ++ [c], by simp [hl], fun k hk => ?_⟩
    by_cases e : k < l.length
    · rw [List.getElem_append_left e]; exact hp k e
    · have : k = n := by simp at hk; omega
      subst this
      rw [List.getElem_append_right (by omega)]
      simpa [hl] using hc

theorem open_arg {H : Type} {enc : TypeId × Value → H} {w : World} {fuel : Nat} {a : Option Addr} {len cap : Nat} {x : DataW H × List MemPlace}
    (h : DataW.trod enc Ybaf.prog w 0 (fun _ => true) true fuel 23 [.slice a len cap] = some x) : ∃ cks, ArgAt w a len cks := by
  rcases open_slice Ybaf.underlying23 h with ⟨hcs, _⟩ | ⟨ad, l, c, m, n, D, Pl, hcs, _, hlc, _, hm, _, hel⟩
  · simp at hcs
    obtain ⟨rfl, rfl, rfl⟩ := hcs
    exact ⟨[], rfl, by simp, .inl ⟨rfl, rfl⟩, by simp⟩
  · simp at hcs
    obtain ⟨rfl, rfl, rfl⟩ := hcs
    simp only [if_true] at hm
    subst hm
    rw [Ybaf.cells29] at hel
    obtain ⟨cks, hl, hp⟩ := choose_cks len (fun i c => w.cells? 0 (ad.add (i * 34)) 34 = some c.cells ∧ c.hs.length = 32 ∧ (Lit.int .i64 c.off).wf = true ∧ (Lit.int .i64 c.len).wf = true) (fun i hi => by
      obtain ⟨cs', h1, h2⟩ := hel i (by omega)
      obtain ⟨c, rfl, h3⟩ := open_ck h2
      exact ⟨c, h1, h3⟩)
    refine ⟨cks, hl, ?_, .inr ⟨ad, rfl⟩, fun h0 => ?_⟩
    · intro c hc
      obtain ⟨k, hk, rfl⟩ := List.getElem_of_mem hc
      exact (hp k hk).2
    · obtain ⟨b, off, spot⟩ := ad
      obtain ⟨_, _, hc0⟩ := World.cells?_some (hp 0 (by omega)).1
      have hc00 := hc0 0 (by omega)
      have hsome : w.cell? (((⟨b, off, spot⟩ : Addr).add (0 * 34)).add 0) = some (.int .i64 (cks[0]'(by omega)).off) := by rw [hc00]; rfl
      have hspot : spot = none := by simpa [Addr.add] using World.cell?_spot hsome
      subst hspot
      refine ⟨b, off, rfl, ?_, fun k hk j v hv => ?_⟩
      · have := World.block_lt_of_cell? _ _ hsome
        simpa [Addr.add] using this
      · obtain ⟨_, hlen, hc⟩ := World.cells?_some (hp k hk).1
        have hj : j < 34 := by rw [← hlen]; exact (List.getElem?_eq_some_iff.1 hv).1
        have := hc j hj
        rw [Addr.add_mid, Addr.add_mid] at this
        rw [this]; exact hv
end Go.Proofs.YbulkedksFmt
