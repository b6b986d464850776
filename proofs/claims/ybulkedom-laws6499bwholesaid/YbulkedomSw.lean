import Derived.Test.YbulkedomRw
import Derived.BigRegion
namespace Go.Proofs.Ybulkedom
open Go.RowKit Go.Sort
set_option linter.unusedVariables false

/-- The row of placed modules: entry k is the module p k. -/
structure Pm (B : Nat) (W : World) (g n : Nat) (f : ByteArray) (nam : Nat → ByteArray) (kp : Nat → Int) (p : Nat → Nat) : Prop where
  row : Rb B 47 7 W g n (fun k => pmC f (nam (p k)) (kp (p k)))

theorem Pm.at {B : Nat} {W : World} {g n : Nat} {f : ByteArray} {nam : Nat → ByteArray} {kp : Nat → Int} {p : Nat → Nat} (h : Pm B W g n f nam kp p) {i : Nat} (hi : i < n) :
    W.cell? ⟨g, i * 7, none⟩ = some (.string f) ∧ W.cell? ⟨g, i * 7 + 1, none⟩ = some (.string (nam (p i))) ∧ W.cell? ⟨g, i * 7 + 2, none⟩ = some (.string ByteArray.empty) ∧ W.cell? ⟨g, i * 7 + 3, none⟩ = some (.string ByteArray.empty) ∧ W.cell? ⟨g, i * 7 + 4, none⟩ = some (.string ByteArray.empty) ∧ W.cell? ⟨g, i * 7 + 5, none⟩ = some (.int .i64 0) ∧ W.cell? ⟨g, i * 7 + 6, none⟩ = some (.int .i64 (kp (p i))) :=
  ⟨h.row.cell (c := 0) hi rfl, h.row.cell (c := 1) hi rfl, h.row.cell (c := 2) hi rfl, h.row.cell (c := 3) hi rfl, h.row.cell (c := 4) hi rfl, h.row.cell (c := 5) hi rfl, h.row.cell (c := 6) hi rfl⟩

theorem Pm.of_block {B : Nat} {W W' : World} {g n : Nat} {f : ByteArray} {nam : Nat → ByteArray} {kp : Nat → Int} {p : Nat → Nat} (h : Pm B W g n f nam kp p) (hb : W'.heap[g]? = W.heap[g]?) : Pm B W' g n f nam kp p := ⟨h.row.of_block hb⟩
theorem Pm.congr {B : Nat} {W : World} {g n : Nat} {f : ByteArray} {nam : Nat → ByteArray} {kp : Nat → Int} {p q : Nat → Nat} (h : Pm B W g n f nam kp p) (e : ∀ i, i < n → p i = q i) : Pm B W g n f nam kp q := ⟨h.row.congr fun k hk => by rw [e k hk]⟩
/-- Two entries exchanged in memory. -/
def swW (W : World) (g x y : Nat) (f nx ny : ByteArray) (kx ky : Int) : World := ((W.setCells g (x * 7) (pmC f ny ky)).setCells g (y * 7) (pmC f nx kx)).drew
theorem Pm.swap {B : Nat} {W : World} {g n : Nat} {f : ByteArray} {nam : Nat → ByteArray} {kp : Nat → Int} {p : Nat → Nat} (h : Pm B W g n f nam kp p) {x y : Nat} (hx : x < n) (hy : y < n) :
    Pm B (swW W g x y f (nam (p x)) (nam (p y)) (kp (p x)) (kp (p y))) g n f nam kp (swp p x y) := by
  have h1 := (h.row.put hx (pmC f (nam (p y)) (kp (p y))) rfl).put hy (pmC f (nam (p x)) (kp (p x))) rfl
  unfold swW
  generalize (W.setCells g (x * 7) (pmC f (nam (p y)) (kp (p y)))).setCells g (y * 7) (pmC f (nam (p x)) (kp (p x))) = W2 at h1 ⊢
  refine ⟨(h1.of_block (W' := W2.drew) rfl).congr fun k hk => ?_⟩
  unfold swp
  by_cases e1 : k = y
  · subst e1
    by_cases e2 : k = x
    · subst e2; simp
    · simp [e2]
  · by_cases e2 : k = x
    · subst e2; simp [e1]
    · simp [e1, e2]

/-- All but block g stands as it did. -/
structure Kp (g : Nat) (W W' : World) : Prop where
  os : W'.os = W.os
  tape : W'.tape = W.tape
  output : W'.output = W.output
  size : W.heap.size ≤ W'.heap.size
  block : ∀ b, b < W.heap.size → b ≠ g → W'.heap[b]? = W.heap[b]?
theorem Kp.refl (g : Nat) (W : World) : Kp g W W := ⟨rfl, rfl, rfl, Nat.le_refl _, fun _ _ _ => rfl⟩
theorem Kp.trans {g : Nat} {a b c : World} (h : Kp g a b) (k : Kp g b c) : Kp g a c :=
  ⟨k.os.trans h.os, k.tape.trans h.tape, k.output.trans h.output, Nat.le_trans h.size k.size, fun i hi hn => (k.block i (Nat.lt_of_lt_of_le hi h.size) hn).trans (h.block i hi hn)⟩
theorem Kp.below {g : Nat} {W W' : World} (h : Below W.heap.size W W') : Kp g W W' := ⟨h.os, h.tape, h.output, h.size, fun b hb _ => h.block b hb⟩
theorem Kp.cells (g : Nat) : ∀ (vs : List Value) (o : Nat) (W : World), Kp g W (W.setCells g o vs)
  | [], _, W => Kp.refl g W
  | v :: r, o, W => by
    have h1 : Kp g W (W.setCell ⟨g, o, none⟩ v) := ⟨rfl, rfl, rfl, by simp [World.setCell], fun b _ hn => Below.heap_setCell _ _ _ _ hn⟩
    exact h1.trans (Kp.cells g r (o + 1) (W.setCell ⟨g, o, none⟩ v))
theorem Kp.drew {g : Nat} {a W : World} (h : Kp g a W) : Kp g a W.drew := ⟨h.os, h.tape, h.output, h.size, h.block⟩
theorem Kp.swap (W : World) (g x y : Nat) (f nx ny : ByteArray) (kx ky : Int) : Kp g W (swW W g x y f nx ny kx ky) := ((Kp.cells g _ _ W).trans (Kp.cells g _ _ _)).drew

/-- k entries from a on exchanged with those from b on. -/
def swr (p : Nat → Nat) (a b k : Nat) : Nat → Nat := fun i => if a ≤ i ∧ i < a + k then p (i + (b - a)) else if b ≤ i ∧ i < b + k then p (i - (b - a)) else p i
theorem swr_zero (p : Nat → Nat) (a b : Nat) : swr p a b 0 = p := by
  funext i; unfold swr; rw [if_neg (by omega), if_neg (by omega)]
theorem swr_step (p : Nat → Nat) {a b k : Nat} (h : a + (k + 1) ≤ b) : swp (swr p a b k) (a + k) (b + k) = swr p a b (k + 1) := by
  funext i
  unfold swp swr
  by_cases e1 : i = a + k
  · subst e1
    rw [if_pos rfl, if_neg (by omega), if_neg (by omega), if_pos (by omega)]
    congr 1; omega
  · rw [if_neg e1]
    by_cases e2 : i = b + k
    · subst e2
      rw [if_pos rfl, if_neg (by omega), if_neg (by omega), if_neg (by omega), if_pos (by omega)]
      congr 1; omega
    · rw [if_neg e2]
      by_cases e3 : a ≤ i ∧ i < a + k
      · rw [if_pos e3, if_pos (by omega)]
      · rw [if_neg e3]
        by_cases e4 : b ≤ i ∧ i < b + k
        · rw [if_pos e4, if_neg (show ¬ (a ≤ i ∧ i < a + (k + 1)) by omega), if_pos (show b ≤ i ∧ i < b + (k + 1) by omega)]
        · rw [if_neg e4, if_neg (show ¬ (a ≤ i ∧ i < a + (k + 1)) by omega), if_neg (show ¬ (b ≤ i ∧ i < b + (k + 1)) by omega)]

set_option maxRecDepth 100000 in
set_option maxHeartbeats 4000000 in
/-- slices.swapRangeCmpFunc. -/
theorem swapRange_any (B : Nat) (g n cap a b k : Nat) (f : ByteArray) (nam : Nat → ByteArray) (kp : Nat → Int) (p : Nat → Nat) (cm : Value) (w : World) (hP : Pm B w g n f nam kp p) (ha : a + k ≤ n) (hb : b + k ≤ n) (hab : a + k ≤ b) (hn : n ≤ 4611686018427387904) :
    Calls Yba.prog 20 #[.slice (some ⟨g, 0, none⟩) n cap, .int .i64 a, .int .i64 b, .int .i64 k, cm] w fun e w' => e = .returned (.tuple #[]) ∧ Pm B w' g n f nam kp (swr p a b k) ∧ Kp g w w' := by
  have HP := hide hP
  clear hP
  go_enter Yba.func20, Yba.ntmps20
  go_wp2_with fail
  go_loopw [10] (fun s W => ∃ i : Nat, i ≤ k ∧ s = .int .i64 i ∧ Pm B W g n f nam kp (swr p a b i) ∧ Kp g w W) (fun s _ => k - (intOf s).toNat)
  case atStart => exact ⟨0, by omega, rfl, by rw [swr_zero]; exact HP.out, Kp.refl _ _⟩
  case round =>
    clear HP
    obtain ⟨i, hi, rfl, hP, hK⟩ := hrel
    by_cases hlt : i < k
    · obtain ⟨x, hx⟩ : ∃ x, a + i = x := ⟨_, rfl⟩
      obtain ⟨y, hy⟩ : ∃ y, b + i = y := ⟨_, rfl⟩
      have hx' : (a : Int) + (i : Int) = (x : Int) := by omega
      have hy' : (b : Int) + (i : Int) = (y : Int) := by omega
      obtain ⟨c0, c1, c2, c3, c4, c5, c6⟩ := hP.at (i := x) (by omega)
      obtain ⟨d0, d1, d2, d3, d4, d5, d6⟩ := hP.at (i := y) (by omega)
      have hfr : ∀ o, wr.frozen? ⟨g, o, none⟩ = false := fun o => by
        obtain ⟨cur, hg, _⟩ := hP.row.row
        exact frozen_of_row wr _ _ _ _ hg
      obtain ⟨q, hq⟩ : ∃ q, swr p a b i = q := ⟨_, rfl⟩
      have hst : swp q x y = swr p a b (i + 1) := by rw [← hq, ← hx, ← hy]; exact swr_step p (by omega)
      rw [hq] at hP c1 c6 d1 d6
      have hsw := hP.swap (x := x) (y := y) (by omega) (by omega)
      rw [hst] at hsw
      have HSW := hide hsw
      have HK := hide hK
      clear hst hq hsw hK
      generalize nam (q x) = nx at *
      generalize kp (q x) = kx at *
      generalize nam (q y) = ny at *
      generalize kp (q y) = ky at *
      have bx : (x : Int) < (n : Int) := by omega
      have by' : (y : Int) < (n : Int) := by omega
      have x0 : (0 : Int) ≤ (x : Int) := by omega
      have y0 : (0 : Int) ≤ (y : Int) := by omega
      have hxy : x < y := by omega
      have n01 : ¬ (x * 7 = y * 7 + 1) := by omega
      have m01 : ¬ (y * 7 + 1 = x * 7) := by omega
      have n02 : ¬ (x * 7 = y * 7 + 2) := by omega
      have m02 : ¬ (y * 7 + 2 = x * 7) := by omega
      have n03 : ¬ (x * 7 = y * 7 + 3) := by omega
      have m03 : ¬ (y * 7 + 3 = x * 7) := by omega
      have n04 : ¬ (x * 7 = y * 7 + 4) := by omega
      have m04 : ¬ (y * 7 + 4 = x * 7) := by omega
      have n05 : ¬ (x * 7 = y * 7 + 5) := by omega
      have m05 : ¬ (y * 7 + 5 = x * 7) := by omega
      have n06 : ¬ (x * 7 = y * 7 + 6) := by omega
      have m06 : ¬ (y * 7 + 6 = x * 7) := by omega
      have n10 : ¬ (x * 7 + 1 = y * 7) := by omega
      have m10 : ¬ (y * 7 = x * 7 + 1) := by omega
      have n12 : ¬ (x * 7 + 1 = y * 7 + 2) := by omega
      have m12 : ¬ (y * 7 + 2 = x * 7 + 1) := by omega
      have n13 : ¬ (x * 7 + 1 = y * 7 + 3) := by omega
      have m13 : ¬ (y * 7 + 3 = x * 7 + 1) := by omega
      have n14 : ¬ (x * 7 + 1 = y * 7 + 4) := by omega
      have m14 : ¬ (y * 7 + 4 = x * 7 + 1) := by omega
      have n15 : ¬ (x * 7 + 1 = y * 7 + 5) := by omega
      have m15 : ¬ (y * 7 + 5 = x * 7 + 1) := by omega
      have n16 : ¬ (x * 7 + 1 = y * 7 + 6) := by omega
      have m16 : ¬ (y * 7 + 6 = x * 7 + 1) := by omega
      have n20 : ¬ (x * 7 + 2 = y * 7) := by omega
      have m20 : ¬ (y * 7 = x * 7 + 2) := by omega
      have n21 : ¬ (x * 7 + 2 = y * 7 + 1) := by omega
      have m21 : ¬ (y * 7 + 1 = x * 7 + 2) := by omega
      have n23 : ¬ (x * 7 + 2 = y * 7 + 3) := by omega
      have m23 : ¬ (y * 7 + 3 = x * 7 + 2) := by omega
      have n24 : ¬ (x * 7 + 2 = y * 7 + 4) := by omega
      have m24 : ¬ (y * 7 + 4 = x * 7 + 2) := by omega
      have n25 : ¬ (x * 7 + 2 = y * 7 + 5) := by omega
      have m25 : ¬ (y * 7 + 5 = x * 7 + 2) := by omega
      have n26 : ¬ (x * 7 + 2 = y * 7 + 6) := by omega
      have m26 : ¬ (y * 7 + 6 = x * 7 + 2) := by omega
      have n30 : ¬ (x * 7 + 3 = y * 7) := by omega
      have m30 : ¬ (y * 7 = x * 7 + 3) := by omega
      have n31 : ¬ (x * 7 + 3 = y * 7 + 1) := by omega
      have m31 : ¬ (y * 7 + 1 = x * 7 + 3) := by omega
      have n32 : ¬ (x * 7 + 3 = y * 7 + 2) := by omega
      have m32 : ¬ (y * 7 + 2 = x * 7 + 3) := by omega
      have n34 : ¬ (x * 7 + 3 = y * 7 + 4) := by omega
      have m34 : ¬ (y * 7 + 4 = x * 7 + 3) := by omega
      have n35 : ¬ (x * 7 + 3 = y * 7 + 5) := by omega
      have m35 : ¬ (y * 7 + 5 = x * 7 + 3) := by omega
      have n36 : ¬ (x * 7 + 3 = y * 7 + 6) := by omega
      have m36 : ¬ (y * 7 + 6 = x * 7 + 3) := by omega
      have n40 : ¬ (x * 7 + 4 = y * 7) := by omega
      have m40 : ¬ (y * 7 = x * 7 + 4) := by omega
      have n41 : ¬ (x * 7 + 4 = y * 7 + 1) := by omega
      have m41 : ¬ (y * 7 + 1 = x * 7 + 4) := by omega
      have n42 : ¬ (x * 7 + 4 = y * 7 + 2) := by omega
      have m42 : ¬ (y * 7 + 2 = x * 7 + 4) := by omega
      have n43 : ¬ (x * 7 + 4 = y * 7 + 3) := by omega
      have m43 : ¬ (y * 7 + 3 = x * 7 + 4) := by omega
      have n45 : ¬ (x * 7 + 4 = y * 7 + 5) := by omega
      have m45 : ¬ (y * 7 + 5 = x * 7 + 4) := by omega
      have n46 : ¬ (x * 7 + 4 = y * 7 + 6) := by omega
      have m46 : ¬ (y * 7 + 6 = x * 7 + 4) := by omega
      have n50 : ¬ (x * 7 + 5 = y * 7) := by omega
      have m50 : ¬ (y * 7 = x * 7 + 5) := by omega
      have n51 : ¬ (x * 7 + 5 = y * 7 + 1) := by omega
      have m51 : ¬ (y * 7 + 1 = x * 7 + 5) := by omega
      have n52 : ¬ (x * 7 + 5 = y * 7 + 2) := by omega
      have m52 : ¬ (y * 7 + 2 = x * 7 + 5) := by omega
      have n53 : ¬ (x * 7 + 5 = y * 7 + 3) := by omega
      have m53 : ¬ (y * 7 + 3 = x * 7 + 5) := by omega
      have n54 : ¬ (x * 7 + 5 = y * 7 + 4) := by omega
      have m54 : ¬ (y * 7 + 4 = x * 7 + 5) := by omega
      have n56 : ¬ (x * 7 + 5 = y * 7 + 6) := by omega
      have m56 : ¬ (y * 7 + 6 = x * 7 + 5) := by omega
      have n60 : ¬ (x * 7 + 6 = y * 7) := by omega
      have m60 : ¬ (y * 7 = x * 7 + 6) := by omega
      have n61 : ¬ (x * 7 + 6 = y * 7 + 1) := by omega
      have m61 : ¬ (y * 7 + 1 = x * 7 + 6) := by omega
      have n62 : ¬ (x * 7 + 6 = y * 7 + 2) := by omega
      have m62 : ¬ (y * 7 + 2 = x * 7 + 6) := by omega
      have n63 : ¬ (x * 7 + 6 = y * 7 + 3) := by omega
      have m63 : ¬ (y * 7 + 3 = x * 7 + 6) := by omega
      have n64 : ¬ (x * 7 + 6 = y * 7 + 4) := by omega
      have m64 : ¬ (y * 7 + 4 = x * 7 + 6) := by omega
      have n65 : ¬ (x * 7 + 6 = y * 7 + 5) := by omega
      have m65 : ¬ (y * 7 + 5 = x * 7 + 6) := by omega
      have nxy : ¬ x = y := by omega
      have nyx : ¬ y = x := by omega
      clear hP hx hy hxy
      go_wp2_with fail
      go_region
      have HW : Hid (Pm B (swW wr g x y f nx ny kx ky) g n f nam kp (swr p a b (i + 1))) := HSW
      have HK2 := hide (HK.out.trans (Kp.swap wr g x y f nx ny kx ky))
      obtain ⟨W2, hW2⟩ : ∃ W2, swW wr g x y f nx ny kx ky = W2 := ⟨_, rfl⟩
      rw [hW2] at HW HK2
      have hW3 : swW wr g x y f nx ny kx ky = _ := rfl
      simp only [swW, pmC, World.setCells, Nat.add_assoc, Nat.reduceAdd] at hW2
      rw [hW2]
      clear hW2 HSW HK
      go_wp2_with fail
      go_roundw
      case rel => exact ⟨i + 1, by omega, by go_num, HW.out, HK2.out⟩
      case measure => simp [intOf]; omega
    · have : i = k := by omega
      subst this
      have HP2 := hide hP
      have HK2 := hide hK
      clear hP hK
      go_wp2_with fail
      go_end0
      exact ⟨rfl, HP2.out, HK2.out⟩
end Go.Proofs.Ybulkedom
