import Derived.Test.YbulkednkFmtErr
import Derived.Maps.OwnSet
import Derived.Maps.Views
import Derived.BigRegion
namespace Go.Proofs.YbulkednkFmt
open Go.RowKit Go.Maps
set_option linter.unusedVariables false

/-! ### url.Values.Get -/
def hv (v : Value) : Option (DataW Value × List MemPlace) := some (.held v, [])
theorem law9 : Keyed Ybaf.prog 9 := string_keyed Ybaf.underlying9
theorem key9 (s : ByteArray) (h : s.size ≤ maxLen) : keyOf Ybaf.prog 9 (.string s) = some (.string s.data.toList) := WideMaps.keyOf_string_mk Ybaf.underlying9 h
theorem zero28 (w : World) : (zeroValue 28).run Ybaf.prog w = .ok (.slice none 0 0) w := by kernel_rfl

/-- What the map gives for a name. -/
def GetIs (w : World) (mb : Nat) (key t : ByteArray) : Prop := ∃ n D v, w.ownsMap Ybaf.prog 9 hv mb n D ∧ D.atKey (.string key.data.toList) (.held (.slice none 0 0)) = .held v ∧ TextAt w v t

set_option maxRecDepth 100000 in
theorem get_any (mb : Nat) (key t : ByteArray) (w : World) (hk : key.size ≤ maxLen) (h : GetIs w mb key t) :
    Calls Ybaf.prog 11 #[.map (some mb), .string key] w fun e w' => e = .returned (.string t) ∧ w' = w := by
  obtain ⟨n, D, v, hown, hat, a, len, cap, rfl, hl, hT⟩ := h
  obtain ⟨v', ps, hrun, hR⟩ := hown.lookup (t := 27) (e := 28) law9 Ybaf.underlying27 (zero28 w) (zd := .held (.slice none 0 0)) (zp := []) rfl (key9 key hk)
  rw [hat] at hR
  simp only [hv, Option.some.injEq, Prod.mk.injEq, DataW.held.injEq] at hR
  obtain ⟨rfl, _⟩ := hR
  clear hown hat
  rcases hT with ⟨rfl, rfl⟩ | ⟨h0, b, rfl, hc⟩
  · go_enter Ybaf.func11, Ybaf.ntmps11
    go_wp2
    go_ret
    exact ⟨rfl, rfl⟩
  · have hl0 : ¬ len = 0 := by omega
    go_enter Ybaf.func11, Ybaf.ntmps11
    go_wp2
    go_ret
    exact ⟨rfl, rfl⟩

theorem GetIs.later {w w' : World} {mb : Nat} {key t : ByteArray} (h : GetIs w mb key t) (hb : Below w.heap.size w w') : GetIs w' mb key t := by
  obtain ⟨n, D, v, ⟨es, clock, hb', F, hs, hD⟩, hat, hT⟩ := h
  exact ⟨n, D, v, ⟨es, clock, by rw [hb.block mb (Array.getElem?_eq_some_iff.1 hb').1]; exact hb', F, hs, hD⟩, hat, hT.later hb⟩

/-! ### searchParams -/
def cnL : List ByteArray := [⟨#[119, 97, 108, 107, 101, 114, 115]⟩, ⟨#[116, 116, 108]⟩, ⟨#[103, 111, 97, 108]⟩]
def fnL : List ByteArray := [⟨#[101, 120, 97, 99, 116]⟩, ⟨#[101, 120, 97, 99, 116, 45, 119, 111, 114, 100, 115]⟩, ⟨#[104, 111, 108, 100, 45, 111, 117, 116]⟩]
def cn (j : Nat) : ByteArray := cnL.getD j ByteArray.empty
def fn (j : Nat) : ByteArray := fnL.getD j ByteArray.empty
def co (j : Nat) : Nat := 3 + j
def fo (j : Nat) : Nat := if j = 2 then 8 else 1 + j

def cA (sb : Nat) : Array Value := #[.string ⟨#[119, 97, 108, 107, 101, 114, 115]⟩, .pointer (some ⟨sb, 3, none⟩), .string ⟨#[116, 116, 108]⟩, .pointer (some ⟨sb, 4, none⟩), .string ⟨#[103, 111, 97, 108]⟩, .pointer (some ⟨sb, 5, none⟩)]
def fA (sb : Nat) : Array Value := #[.string ⟨#[101, 120, 97, 99, 116]⟩, .pointer (some ⟨sb, 1, none⟩), .string ⟨#[101, 120, 97, 99, 116, 45, 119, 111, 114, 100, 115]⟩, .pointer (some ⟨sb, 2, none⟩), .string ⟨#[104, 111, 108, 100, 45, 111, 117, 116]⟩, .pointer (some ⟨sb, 8, none⟩)]

/-- The parameters' two slices. -/
structure Sp (W : World) (sb cb fb : Nat) : Prop where
  c0 : ∀ j, j < 3 → W.cell? ⟨cb, j * 2, none⟩ = some (.string (cn j))
  c1 : ∀ j, j < 3 → W.cell? ⟨cb, j * 2 + 1, none⟩ = some (.pointer (some ⟨sb, co j, none⟩))
  f0 : ∀ j, j < 3 → W.cell? ⟨fb, j * 2, none⟩ = some (.string (fn j))
  f1 : ∀ j, j < 3 → W.cell? ⟨fb, j * 2 + 1, none⟩ = some (.pointer (some ⟨sb, fo j, none⟩))

theorem Sp.of_rows {W : World} {sb cb fb : Nat} (hc : W.heap[cb]? = some (.cells (cA sb) 55 (0, 0))) (hf : W.heap[fb]? = some (.cells (fA sb) 61 (0, 0))) : Sp W sb cb fb := by
  refine ⟨fun j hj => ?_, fun j hj => ?_, fun j hj => ?_, fun j hj => ?_⟩
  · rw [cell_of_row _ _ _ _ _ _ hc]
    match j, hj with
    | 0, _ => rfl
    | 1, _ => rfl
    | 2, _ => rfl
  · rw [cell_of_row _ _ _ _ _ _ hc]
    match j, hj with
    | 0, _ => rfl
    | 1, _ => rfl
    | 2, _ => rfl
  · rw [cell_of_row _ _ _ _ _ _ hf]
    match j, hj with
    | 0, _ => rfl
    | 1, _ => rfl
    | 2, _ => rfl
  · rw [cell_of_row _ _ _ _ _ _ hf]
    match j, hj with
    | 0, _ => rfl
    | 1, _ => rfl
    | 2, _ => rfl

set_option maxRecDepth 100000 in
set_option maxHeartbeats 1600000 in
theorem sp_any (sb : Nat) (w : World) :
    Calls Ybaf.prog 12 #[.pointer (some ⟨sb, 0, none⟩)] w fun e w' => ∃ cb fb, e = .returned (.tuple #[.slice (some ⟨cb, 0, none⟩) 3 3, .slice (some ⟨fb, 0, none⟩) 3 3]) ∧ w.heap.size ≤ cb ∧ w.heap.size ≤ fb ∧ Sp w' sb cb fb ∧ Below w.heap.size w w' := by
  go_enter Ybaf.func12, Ybaf.ntmps12
  go_wp2
  go_region
  · go_wp2
    go_ret2
    refine ⟨w.heap.size, w.heap.size + 1, rfl, by omega, by omega, Sp.of_rows ?_ ?_, (((Below.refl _ _).alloc (Nat.le_refl _) _).alloc (by simp) _).drew⟩
    · show (World.alloc _ _).heap[_]? = _
      rw [Below.heap_alloc _ _ _ (by simp)]; exact heap_alloc_new w _
    · exact heap_at _ _ (by simp)
  · go_wp2
    go_ret2
    refine ⟨w.heap.size + 1, w.heap.size, rfl, by omega, by omega, Sp.of_rows ?_ ?_, (((Below.refl _ _).alloc (Nat.le_refl _) _).alloc (by simp) _).drew⟩
    · exact heap_at _ _ (by simp)
    · show (World.alloc _ _).heap[_]? = _
      rw [Below.heap_alloc _ _ _ (by simp)]; exact heap_alloc_new w _
end Go.Proofs.YbulkednkFmt
