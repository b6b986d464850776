import Derived.Test.YbulkedlgDoorEq
namespace Go.Proofs.YbulkedlgDoor
open Go.RowKit
set_option linter.unusedVariables false

theorem eqF_nil (d : Nat) (xs ys : Array Value) (w : World) : (Op.eqFields d xs ys []).run Ybad.prog w = .ok true w := by simp [Op.eqFields]
theorem eqF_cons (d : Nat) (xs : Array Value) (f : Field) (fs : List Field) (v : Value) (hn : f.name ≠ "_") (hp : ∀ w, (part f.type xs f.offset).run Ybad.prog w = .ok v w) (he : ∀ w, (Op.equalIn d f.type v v).run Ybad.prog w = .ok true w)
    (hr : ∀ w, (Op.eqFields d xs xs fs).run Ybad.prog w = .ok true w) (w : World) : (Op.eqFields d xs xs (f :: fs)).run Ybad.prog w = .ok true w := by
  simp [Op.eqFields, hn, hp, he, hr]

theorem st41 : Ybad.prog.underlying 41 = some (.struct (Ybad.prog.fieldsOf 41)) := by kernel_rfl
theorem st55 : Ybad.prog.underlying 55 = some (.struct (Ybad.prog.fieldsOf 55)) := by kernel_rfl
theorem held41 : Ybad.prog.stoodInHeld 41 = false := by kernel_rfl
theorem held55 : Ybad.prog.stoodInHeld 55 = false := by kernel_rfl
theorem ptr51 : Ybad.prog.underlying 51 = some (.pointer (Ybad.prog.pointee 51)) := by kernel_rfl
theorem s39 : (Ybad.prog.info? 39).map (·.size) = some 16 := by kernel_rfl
theorem s52 : (Ybad.prog.info? 52).map (·.size) = some 4 := by kernel_rfl
theorem s53 : (Ybad.prog.info? 53).map (·.size) = some 3 := by kernel_rfl
theorem s23 : (Ybad.prog.info? 23).map (·.size) = some 64 := by kernel_rfl

theorem flds41 : ∃ p : String, (Ybad.prog.fieldsOf 41).toList = [{ name := "first", type := 3, offset := 0, embedded := false, tag := "", pkgPath := p, byteOffset := 0 }, { name := "last", type := 3, offset := 1, embedded := false, tag := "", pkgPath := p, byteOffset := 8 }, { name := "band", type := 22, offset := 2, embedded := false, tag := "", pkgPath := p, byteOffset := 16 }, { name := "own", type := 38, offset := 3, embedded := false, tag := "", pkgPath := p, byteOffset := 24 }, { name := "ends", type := 39, offset := 4, embedded := false, tag := "", pkgPath := p, byteOffset := 32 }, { name := "run", type := 3, offset := 20, embedded := false, tag := "", pkgPath := p, byteOffset := 160 }] := ⟨((Ybad.prog.fieldsOf 41).toList.head?.map (·.pkgPath)).getD "", by kernel_rfl⟩
theorem flds55 : ∃ p : String, (Ybad.prog.fieldsOf 55).toList = [{ name := "b", type := 51, offset := 0, embedded := false, tag := "", pkgPath := p, byteOffset := 0 }, { name := "above", type := 52, offset := 1, embedded := false, tag := "", pkgPath := p, byteOffset := 8 }, { name := "ones", type := 53, offset := 5, embedded := false, tag := "", pkgPath := p, byteOffset := 40 }, { name := "negative", type := 22, offset := 8, embedded := false, tag := "", pkgPath := p, byteOffset := 64 }, { name := "sizes", type := 23, offset := 9, embedded := false, tag := "", pkgPath := p, byteOffset := 72 }] := ⟨((Ybad.prog.fieldsOf 55).toList.head?.map (·.pkgPath)).getD "", by kernel_rfl⟩

theorem band_list (pb f : Nat) (last : Int) (p : Nat) : (bandC pb f last p).toList = [.int .i64 f, .int .i64 last, .int .u64 0, .pointer (some ⟨pb, p * 256, none⟩)] ++ List.replicate 17 (.int .i64 0) := rfl
theorem band_ends (pb f : Nat) (last : Int) (p q : Nat) (hq : q < 16) : ((bandC pb f last p).extract 4 (4 + 16))[q]? = some (.int .i64 0) := by
  have hs : (bandC pb f last p).size = 21 := rfl
  rw [Array.getElem?_extract, if_pos (by rw [hs]; simp; omega), ← Array.getElem?_toList, band_list, List.getElem?_append_right (by simp), List.getElem?_replicate, if_pos (by simp; omega)]

theorem eq41 (d pb f : Nat) (last : Int) (p : Nat) (w : World) : (Op.equalIn (d + 4) 41 (.agg (bandC pb f last p)) (.agg (bandC pb f last p))).run Ybad.prog w = .ok true w := by
  obtain ⟨pk, hpk⟩ := flds41
  rw [run_equalIn_struct w (d + 3) 41 _ _ st41 held41, hpk]
  refine eqF_cons _ _ _ _ (.int .i64 f) (by simp) ?_ ?_ ?_ w
  · exact pInt _ _ _ _ _ Ybad.underlying3 rfl
  · exact eInt _ _ _ _ _ Ybad.underlying3
  clear w; intro w
  refine eqF_cons _ _ _ _ (.int .i64 last) (by simp) ?_ ?_ ?_ w
  · exact pInt _ _ _ _ _ Ybad.underlying3 rfl
  · exact eInt _ _ _ _ _ Ybad.underlying3
  clear w; intro w
  refine eqF_cons _ _ _ _ (.int .u64 0) (by simp) ?_ ?_ ?_ w
  · exact pInt _ _ _ _ _ Ybad.underlying22 rfl
  · exact eInt _ _ _ _ _ Ybad.underlying22
  clear w; intro w
  refine eqF_cons _ _ _ _ (.pointer (some ⟨pb, p * 256, none⟩)) (by simp) ?_ ?_ ?_ w
  · exact pPtr _ _ _ _ _ Ybad.underlying38 rfl
  · exact ePtr38 _ _
  clear w; intro w
  refine eqF_cons _ _ _ _ (.agg ((bandC pb f last p).extract 4 (4 + 16))) (by simp) ?_ ?_ ?_ w
  · exact pArr _ _ _ _ _ _ Ybad.underlying39 s39
  · refine eqInts (d + 1) _ Ybad.underlying39 Ybad.underlying3 s3 (fun q hq => ⟨0, ?_⟩)
    exact band_ends pb f last p q hq
  clear w; intro w
  refine eqF_cons _ _ _ _ (.int .i64 0) (by simp) ?_ ?_ ?_ w
  · exact pInt _ _ _ _ _ Ybad.underlying3 rfl
  · exact eInt _ _ _ _ _ Ybad.underlying3
  clear w; intro w
  exact eqF_nil _ _ _ w
theorem eq41' (pb f : Nat) (last : Int) (p : Nat) (w : World) : (Op.equalIn 10000 41 (.agg (bandC pb f last p)) (.agg (bandC pb f last p))).run Ybad.prog w = .ok true w := eq41 9996 pb f last p w

/-- The sizes, and the block that holds them. -/
def szL (sz : Nat → Int) : List Value := (List.range 64).map fun q => .int .u8 (sz q)
def acL (sz : Nat → Int) : List Value := [.pointer none, .int .u64 0, .int .u64 0, .int .u64 0, .int .u64 0, .int .u64 0, .int .u64 0, .int .u64 0, .int .u64 0] ++ szL sz
theorem szL_get (sz : Nat → Int) (q : Nat) (h : q < 64) : (szL sz)[q]? = some (.int .u8 (sz q)) := by simp [szL, h]
theorem szL_len (sz : Nat → Int) : (szL sz).length = 64 := by simp [szL]
theorem acL_len (sz : Nat → Int) : (acL sz).length = 73 := by simp [acL, szL]
theorem acL_get (sz : Nat → Int) (q : Nat) (h : q < 64) : (acL sz)[9 + q]? = some (.int .u8 (sz q)) := by
  unfold acL
  rw [List.getElem?_append_right (by simp)]
  simp [szL, h]

theorem ac_get (sz : Nat → Int) (o n q : Nat) (hq : q < n) (ho : o + n ≤ 73) (v : Value) (h : (acL sz)[o + q]? = some v) : ((acL sz).toArray.extract o (o + n))[q]? = some v := by
  rw [Array.getElem?_extract, if_pos]
  · simpa using h
  · simp [acL_len, Nat.min_def]
    split <;> omega

theorem eq55 (d : Nat) (sz : Nat → Int) (w : World) : (Op.equalIn (d + 4) 55 (.agg (acL sz).toArray) (.agg (acL sz).toArray)).run Ybad.prog w = .ok true w := by
  obtain ⟨pk, hpk⟩ := flds55
  rw [run_equalIn_struct w (d + 3) 55 _ _ st55 held55, hpk]
  refine eqF_cons _ _ _ _ (.pointer none) (by simp) ?_ ?_ ?_ w
  · exact pPtr _ _ _ _ _ ptr51 rfl
  · exact ePtrNil _ _ ptr51
  clear w; intro w
  refine eqF_cons _ _ _ _ (.agg ((acL sz).toArray.extract 1 (1 + 4))) (by simp) ?_ ?_ ?_ w
  · exact pArr _ _ _ _ _ _ Ybad.underlying52 s52
  · refine eqInts (d + 1) _ Ybad.underlying52 Ybad.underlying22 s22 (fun q hq => ⟨0, ac_get sz 1 4 q hq (by omega) _ ?_⟩)
    match q, hq with
    | 0, _ => rfl
    | 1, _ => rfl
    | 2, _ => rfl
    | 3, _ => rfl
  clear w; intro w
  refine eqF_cons _ _ _ _ (.agg ((acL sz).toArray.extract 5 (5 + 3))) (by simp) ?_ ?_ ?_ w
  · exact pArr _ _ _ _ _ _ Ybad.underlying53 s53
  · refine eqInts (d + 1) _ Ybad.underlying53 Ybad.underlying22 s22 (fun q hq => ⟨0, ac_get sz 5 3 q hq (by omega) _ ?_⟩)
    match q, hq with
    | 0, _ => rfl
    | 1, _ => rfl
    | 2, _ => rfl
  clear w; intro w
  refine eqF_cons _ _ _ _ (.int .u64 0) (by simp) ?_ ?_ ?_ w
  · exact pInt _ _ _ _ _ Ybad.underlying22 rfl
  · exact eInt _ _ _ _ _ Ybad.underlying22
  clear w; intro w
  refine eqF_cons _ _ _ _ (.agg ((acL sz).toArray.extract 9 (9 + 64))) (by simp) ?_ ?_ ?_ w
  · exact pArr _ _ _ _ _ _ Ybad.underlying23 s23
  · exact eqInts (d + 1) _ Ybad.underlying23 Ybad.underlying5 s5 (fun q hq => ⟨sz q, ac_get sz 9 64 q hq (by omega) _ (acL_get sz q hq)⟩)
  clear w; intro w
  exact eqF_nil _ _ _ w
theorem eq55' (sz : Nat → Int) (w : World) : (Op.equalIn 10000 55 (.agg (acL sz).toArray) (.agg (acL sz).toArray)).run Ybad.prog w = .ok true w := eq55 9996 sz w

/-- 'acBlock{sizes: sizes}'. -/
theorem build55 (sz : Nat → Int) (w : World) : (Instr.build 55 #[(4, .agg (szL sz).toArray)]).run Ybad.prog w = .ok (.agg (acL sz).toArray) w :=
  run_build w 55 _ _ (by show Ybad.prog.built 55 [(4, .agg (szL sz).toArray)] = some (acL sz).toArray; kernel_rfl)

/-- A row of zeros of one kind. -/
def zs (k : IntKind) (n : Nat) : Array Value := (List.replicate n (Value.int k 0)).toArray
theorem zs_get (k : IntKind) (n q : Nat) (h : q < n) : (zs k n)[q]? = some (.int k 0) := by simp [zs, h]
theorem build46 (w : World) : (Instr.build 46 #[]).run Ybad.prog w = .ok (.agg (zs .u32 1024)) w := run_build w 46 _ _ (by kernel_rfl)
theorem build47 (w : World) : (Instr.build 47 #[]).run Ybad.prog w = .ok (.agg (zs .u64 64)) w := run_build w 47 _ _ (by kernel_rfl)
theorem eq46' (w : World) : (Op.equalIn 10000 46 (.agg (zs .u32 1024)) (.agg (zs .u32 1024))).run Ybad.prog w = .ok true w := eqRows 9997 _ Ybad.underlying46 (fun q hq => ⟨0, zs_get _ _ q hq⟩) w
theorem eq47' (w : World) : (Op.equalIn 10000 47 (.agg (zs .u64 64)) (.agg (zs .u64 64))).run Ybad.prog w = .ok true w := eqInts 9998 _ Ybad.underlying47 Ybad.underlying22 s22 (fun q hq => ⟨0, zs_get _ _ q hq⟩) w
theorem neqOf {t : TypeId} {xs : Array Value} (h : ∀ w, (Op.equalIn 10000 t (.agg xs) (.agg xs)).run Ybad.prog w = .ok true w) (w : World) : (binOp .neq t (.agg xs) (.agg xs)).run Ybad.prog w = .ok (.bool false) w := by
  rw [run_neq_struct, h w]
  rfl

/-- The levelCounts that the law makes. -/
theorem lev_built (al : Int) (a : Option Addr) (n c : Nat) : ∃ cells : Array Value, (∀ w, (Instr.build 49 #[(0, Value.int .i64 al), (3, Value.slice a n c)]).run Ybad.prog w = .ok (.agg cells) w) ∧ cells.size = 1093 ∧ cells[0]? = some (.int .i64 al) ∧ cells[1]? = some (.slice none 0 0) ∧ cells[2]? = some (.slice none 0 0) ∧ cells[3]? = some (.slice a n c) ∧ cells[1092]? = some (.int .i64 0) ∧
    cells.toList.drop 4 = (zs .u32 1024).toList ++ ((zs .u64 64).toList ++ [.int .i64 0]) := by
  have h : (Ybad.prog.built 49 [(0, Value.int .i64 al), (3, Value.slice a n c)]).map (fun c => (c.size, c[0]?, c[1]?, c[2]?, c[3]?, c[1092]?, c.toList.drop 4)) = some (1093, some (.int .i64 al), some (.slice none 0 0), some (.slice none 0 0), some (.slice a n c), some (.int .i64 0), (zs .u32 1024).toList ++ ((zs .u64 64).toList ++ [.int .i64 0])) := by kernel_rfl
  cases hc : Ybad.prog.built 49 [(0, Value.int .i64 al), (3, Value.slice a n c)] with
  | none => rw [hc] at h; simp at h
  | some cs =>
    rw [hc] at h
    simp only [Option.map_some, Option.some.injEq, Prod.mk.injEq] at h
    exact ⟨cs, fun w => run_build w 49 _ cs hc, h⟩
theorem zero31 (w : World) : (zeroValue 31).run Ybad.prog w = .ok (.agg (pv fun _ => 0)) w := by kernel_rfl
end Go.Proofs.YbulkedlgDoor
