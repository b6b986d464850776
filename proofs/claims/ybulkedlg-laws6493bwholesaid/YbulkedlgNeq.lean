import Derived.Test.YbulkedlgRw
import Derived.Laws.StructEq
import Derived.Laws.Pointers
namespace Go.Proofs.Ybulkedlg
open Go.RowKit
set_option linter.unusedVariables false

/-- A rowBlock's cells. -/
def cRow (c p r : Int) (f : Bool) : List Value := [.int .i32 c, .int .u8 p, .int .u8 r, .bool f]
/-- An encodePart's cells: only id and index are laid. -/
def cEnc (id ix : Int) : List Value := [.int .i64 0, .int .i64 0, .int .i64 0, .int .i64 0, .int .i64 id, .int .i64 ix, .int .u8 0, .int .u8 0, .int .i32 0]
/-- A scanPart's cells: only id and index are laid. -/
def cScan (id ix : Int) : List Value := [.int .i64 0, .int .i64 0, .int .i64 0, .int .i64 0, .int .i64 id, .int .i64 ix, .pointer none, .pointer none, .pointer none, .int .i32 0]

theorem st72 : Yba.prog.underlying 72 = some (.struct (Yba.prog.fieldsOf 72)) := by kernel_rfl
theorem st66 : Yba.prog.underlying 66 = some (.struct (Yba.prog.fieldsOf 66)) := by kernel_rfl
theorem st60 : Yba.prog.underlying 60 = some (.struct (Yba.prog.fieldsOf 60)) := by kernel_rfl
theorem st58 : Yba.prog.underlying 58 = some (.struct (Yba.prog.fieldsOf 58)) := by kernel_rfl
theorem held72 : Yba.prog.stoodInHeld 72 = false := by kernel_rfl
theorem held66 : Yba.prog.stoodInHeld 66 = false := by kernel_rfl
theorem held60 : Yba.prog.stoodInHeld 60 = false := by kernel_rfl
theorem held58 : Yba.prog.stoodInHeld 58 = false := by kernel_rfl
theorem sz58 (w : World) : (sizeOf 58).run Yba.prog w = .ok 4 w := by kernel_rfl
theorem ptr63 : Yba.prog.underlying 63 = some (.pointer (Yba.prog.pointee 63)) := by kernel_rfl
theorem ptr64 : Yba.prog.underlying 64 = some (.pointer (Yba.prog.pointee 64)) := by kernel_rfl

theorem pInt (xs : Array Value) (o : Nat) (t : TypeId) (k : IntKind) (v : Value) (hu : Yba.prog.underlying t = some (.int k)) (hx : xs[o]? = some v) (w : World) : (part t xs o).run Yba.prog w = .ok v w := by
  simp [part, isAgg, run_underlying hu, hx]
theorem pBool (xs : Array Value) (o : Nat) (t : TypeId) (v : Value) (hu : Yba.prog.underlying t = some .bool) (hx : xs[o]? = some v) (w : World) : (part t xs o).run Yba.prog w = .ok v w := by
  simp [part, isAgg, run_underlying hu, hx]
theorem pPtr (xs : Array Value) (o : Nat) (t : TypeId) (e : TypeId) (v : Value) (hu : Yba.prog.underlying t = some (.pointer e)) (hx : xs[o]? = some v) (w : World) : (part t xs o).run Yba.prog w = .ok v w := by
  simp [part, isAgg, run_underlying hu, hx]
theorem p58 (xs : Array Value) (o : Nat) (w : World) : (part 58 xs o).run Yba.prog w = .ok (.agg (xs.extract o (o + 4))) w := by
  simp [part, isAgg, run_underlying st58]

theorem eqF_nil (d : Nat) (xs ys : Array Value) (w : World) : (Op.eqFields d xs ys []).run Yba.prog w = .ok true w := by simp [Op.eqFields]
theorem eqF_cons (d : Nat) (xs : Array Value) (f : Field) (fs : List Field) (v : Value) (hn : f.name ≠ "_") (hp : ∀ w, (part f.type xs f.offset).run Yba.prog w = .ok v w) (he : ∀ w, (Op.equalIn d f.type v v).run Yba.prog w = .ok true w)
    (hr : ∀ w, (Op.eqFields d xs xs fs).run Yba.prog w = .ok true w) (w : World) : (Op.eqFields d xs xs (f :: fs)).run Yba.prog w = .ok true w := by
  simp [Op.eqFields, hn, hp, he, hr]

theorem eInt (d : Nat) (t : TypeId) (k k' : IntKind) (a : Int) (h : Yba.prog.underlying t = some (.int k')) (w : World) : (Op.equalIn (d + 1) t (.int k a) (.int k a)).run Yba.prog w = .ok true w := by
  rw [run_equalIn_int w d t k k' a a h]; simp
theorem eBool (d : Nat) (t : TypeId) (a : Bool) (h : Yba.prog.underlying t = some .bool) (w : World) : (Op.equalIn (d + 1) t (.bool a) (.bool a)).run Yba.prog w = .ok true w := by
  rw [run_equalIn_bool w d t a a h]; simp
theorem ePtr (d : Nat) (t : TypeId) (h : Yba.prog.underlying t = some (.pointer (Yba.prog.pointee t))) (w : World) : (Op.equalIn (d + 1) t (.pointer none) (.pointer none)).run Yba.prog w = .ok true w := by
  rw [run_equalIn_pointer_nil w d t none h]; rfl

theorem flds72 : ∃ p : String, (Yba.prog.fieldsOf 72).toList = [{ name := "col", type := 21, offset := 0, embedded := false, tag := "", pkgPath := p, byteOffset := 0 }, { name := "part", type := 5, offset := 1, embedded := false, tag := "", pkgPath := p, byteOffset := 4 }, { name := "row", type := 5, offset := 2, embedded := false, tag := "", pkgPath := p, byteOffset := 5 }, { name := "first", type := 4, offset := 3, embedded := false, tag := "", pkgPath := p, byteOffset := 6 }] := ⟨((Yba.prog.fieldsOf 72).toList.head?.map (·.pkgPath)).getD "", by kernel_rfl⟩
theorem flds58 : ∃ p : String, (Yba.prog.fieldsOf 58).toList = [{ name := "wide", type := 3, offset := 0, embedded := false, tag := "", pkgPath := p, byteOffset := 0 }, { name := "high", type := 3, offset := 1, embedded := false, tag := "", pkgPath := p, byteOffset := 8 }, { name := "h", type := 3, offset := 2, embedded := false, tag := "", pkgPath := p, byteOffset := 16 }, { name := "v", type := 3, offset := 3, embedded := false, tag := "", pkgPath := p, byteOffset := 24 }] := ⟨((Yba.prog.fieldsOf 58).toList.head?.map (·.pkgPath)).getD "", by kernel_rfl⟩
theorem flds66 : ∃ p : String, (Yba.prog.fieldsOf 66).toList = [{ name := "scanLayout", type := 58, offset := 0, embedded := true, tag := "", pkgPath := p, byteOffset := 0 }, { name := "id", type := 3, offset := 4, embedded := false, tag := "", pkgPath := p, byteOffset := 32 }, { name := "index", type := 3, offset := 5, embedded := false, tag := "", pkgPath := p, byteOffset := 40 }, { name := "quant", type := 63, offset := 6, embedded := false, tag := "", pkgPath := p, byteOffset := 48 }, { name := "dc", type := 64, offset := 7, embedded := false, tag := "", pkgPath := p, byteOffset := 56 }, { name := "ac", type := 64, offset := 8, embedded := false, tag := "", pkgPath := p, byteOffset := 64 }, { name := "pred", type := 21, offset := 9, embedded := false, tag := "", pkgPath := p, byteOffset := 72 }] := ⟨((Yba.prog.fieldsOf 66).toList.head?.map (·.pkgPath)).getD "", by kernel_rfl⟩
theorem flds60 : ∃ p : String, (Yba.prog.fieldsOf 60).toList = [{ name := "scanLayout", type := 58, offset := 0, embedded := true, tag := "", pkgPath := p, byteOffset := 0 }, { name := "id", type := 3, offset := 4, embedded := false, tag := "", pkgPath := p, byteOffset := 32 }, { name := "index", type := 3, offset := 5, embedded := false, tag := "", pkgPath := p, byteOffset := 40 }, { name := "dc", type := 5, offset := 6, embedded := false, tag := "", pkgPath := p, byteOffset := 48 }, { name := "ac", type := 5, offset := 7, embedded := false, tag := "", pkgPath := p, byteOffset := 49 }, { name := "pred", type := 21, offset := 8, embedded := false, tag := "", pkgPath := p, byteOffset := 52 }] := ⟨((Yba.prog.fieldsOf 60).toList.head?.map (·.pkgPath)).getD "", by kernel_rfl⟩

/-- An empty scanLayout equals itself. -/
theorem eLay (d : Nat) (w : World) : (Op.equalIn (d + 2) 58 (.agg #[.int .i64 0, .int .i64 0, .int .i64 0, .int .i64 0]) (.agg #[.int .i64 0, .int .i64 0, .int .i64 0, .int .i64 0])).run Yba.prog w = .ok true w := by
  obtain ⟨pk, hpk⟩ := flds58
  rw [run_equalIn_struct w (d + 1) 58 _ _ st58 held58, hpk]
  refine eqF_cons _ _ _ _ (.int .i64 0) (by simp) ?_ ?_ ?_ w
  · exact pInt _ _ _ _ _ Yba.underlying3 rfl
  · exact eInt _ _ _ _ _ Yba.underlying3
  clear w; intro w
  refine eqF_cons _ _ _ _ (.int .i64 0) (by simp) ?_ ?_ ?_ w
  · exact pInt _ _ _ _ _ Yba.underlying3 rfl
  · exact eInt _ _ _ _ _ Yba.underlying3
  clear w; intro w
  refine eqF_cons _ _ _ _ (.int .i64 0) (by simp) ?_ ?_ ?_ w
  · exact pInt _ _ _ _ _ Yba.underlying3 rfl
  · exact eInt _ _ _ _ _ Yba.underlying3
  clear w; intro w
  refine eqF_cons _ _ _ _ (.int .i64 0) (by simp) ?_ ?_ ?_ w
  · exact pInt _ _ _ _ _ Yba.underlying3 rfl
  · exact eInt _ _ _ _ _ Yba.underlying3
  clear w; intro w
  exact eqF_nil _ _ _ w

theorem eq72 (d : Nat) (c p r : Int) (f : Bool) (w : World) : (Op.equalIn (d + 3) 72 (.agg (cRow c p r f).toArray) (.agg (cRow c p r f).toArray)).run Yba.prog w = .ok true w := by
  obtain ⟨pk, hpk⟩ := flds72
  rw [run_equalIn_struct w (d + 2) 72 _ _ st72 held72, hpk]
  refine eqF_cons _ _ _ _ (.int .i32 c) (by simp) ?_ ?_ ?_ w
  · exact pInt _ _ _ _ _ Yba.underlying21 rfl
  · exact eInt _ _ _ _ _ Yba.underlying21
  clear w; intro w
  refine eqF_cons _ _ _ _ (.int .u8 p) (by simp) ?_ ?_ ?_ w
  · exact pInt _ _ _ _ _ Yba.underlying5 rfl
  · exact eInt _ _ _ _ _ Yba.underlying5
  clear w; intro w
  refine eqF_cons _ _ _ _ (.int .u8 r) (by simp) ?_ ?_ ?_ w
  · exact pInt _ _ _ _ _ Yba.underlying5 rfl
  · exact eInt _ _ _ _ _ Yba.underlying5
  clear w; intro w
  refine eqF_cons _ _ _ _ (.bool f) (by simp) ?_ ?_ ?_ w
  · exact pBool _ _ _ _ Yba.underlying4 rfl
  · exact eBool _ _ _ Yba.underlying4
  clear w; intro w
  exact eqF_nil _ _ _ w
theorem neq72 (c p r : Int) (f : Bool) (w : World) : (binOp .neq 72 (.agg (cRow c p r f).toArray) (.agg (cRow c p r f).toArray)).run Yba.prog w = .ok (.bool false) w := by
  have h : (Op.equalIn 10000 72 (.agg (cRow c p r f).toArray) (.agg (cRow c p r f).toArray)).run Yba.prog w = .ok true w := eq72 9997 c p r f w
  rw [run_neq_struct, h]
  rfl

theorem eq66 (d : Nat) (id ix : Int) (w : World) : (Op.equalIn (d + 3) 66 (.agg (cScan id ix).toArray) (.agg (cScan id ix).toArray)).run Yba.prog w = .ok true w := by
  obtain ⟨pk, hpk⟩ := flds66
  rw [run_equalIn_struct w (d + 2) 66 _ _ st66 held66, hpk]
  refine eqF_cons _ _ _ _ (.agg #[.int .i64 0, .int .i64 0, .int .i64 0, .int .i64 0]) (by simp) ?_ ?_ ?_ w
  · exact p58 _ _
  · exact eLay _
  clear w; intro w
  refine eqF_cons _ _ _ _ (.int .i64 id) (by simp) ?_ ?_ ?_ w
  · exact pInt _ _ _ _ _ Yba.underlying3 rfl
  · exact eInt _ _ _ _ _ Yba.underlying3
  clear w; intro w
  refine eqF_cons _ _ _ _ (.int .i64 ix) (by simp) ?_ ?_ ?_ w
  · exact pInt _ _ _ _ _ Yba.underlying3 rfl
  · exact eInt _ _ _ _ _ Yba.underlying3
  clear w; intro w
  refine eqF_cons _ _ _ _ (.pointer none) (by simp) ?_ ?_ ?_ w
  · exact pPtr _ _ _ _ _ ptr63 rfl
  · exact ePtr _ _ ptr63
  clear w; intro w
  refine eqF_cons _ _ _ _ (.pointer none) (by simp) ?_ ?_ ?_ w
  · exact pPtr _ _ _ _ _ ptr64 rfl
  · exact ePtr _ _ ptr64
  clear w; intro w
  refine eqF_cons _ _ _ _ (.pointer none) (by simp) ?_ ?_ ?_ w
  · exact pPtr _ _ _ _ _ ptr64 rfl
  · exact ePtr _ _ ptr64
  clear w; intro w
  refine eqF_cons _ _ _ _ (.int .i32 0) (by simp) ?_ ?_ ?_ w
  · exact pInt _ _ _ _ _ Yba.underlying21 rfl
  · exact eInt _ _ _ _ _ Yba.underlying21
  clear w; intro w
  exact eqF_nil _ _ _ w
theorem neq66 (id ix : Int) (w : World) : (binOp .neq 66 (.agg (cScan id ix).toArray) (.agg (cScan id ix).toArray)).run Yba.prog w = .ok (.bool false) w := by
  have h : (Op.equalIn 10000 66 (.agg (cScan id ix).toArray) (.agg (cScan id ix).toArray)).run Yba.prog w = .ok true w := eq66 9997 id ix w
  rw [run_neq_struct, h]
  rfl

theorem eq60 (d : Nat) (id ix : Int) (w : World) : (Op.equalIn (d + 3) 60 (.agg (cEnc id ix).toArray) (.agg (cEnc id ix).toArray)).run Yba.prog w = .ok true w := by
  obtain ⟨pk, hpk⟩ := flds60
  rw [run_equalIn_struct w (d + 2) 60 _ _ st60 held60, hpk]
  refine eqF_cons _ _ _ _ (.agg #[.int .i64 0, .int .i64 0, .int .i64 0, .int .i64 0]) (by simp) ?_ ?_ ?_ w
  · exact p58 _ _
  · exact eLay _
  clear w; intro w
  refine eqF_cons _ _ _ _ (.int .i64 id) (by simp) ?_ ?_ ?_ w
  · exact pInt _ _ _ _ _ Yba.underlying3 rfl
  · exact eInt _ _ _ _ _ Yba.underlying3
  clear w; intro w
  refine eqF_cons _ _ _ _ (.int .i64 ix) (by simp) ?_ ?_ ?_ w
  · exact pInt _ _ _ _ _ Yba.underlying3 rfl
  · exact eInt _ _ _ _ _ Yba.underlying3
  clear w; intro w
  refine eqF_cons _ _ _ _ (.int .u8 0) (by simp) ?_ ?_ ?_ w
  · exact pInt _ _ _ _ _ Yba.underlying5 rfl
  · exact eInt _ _ _ _ _ Yba.underlying5
  clear w; intro w
  refine eqF_cons _ _ _ _ (.int .u8 0) (by simp) ?_ ?_ ?_ w
  · exact pInt _ _ _ _ _ Yba.underlying5 rfl
  · exact eInt _ _ _ _ _ Yba.underlying5
  clear w; intro w
  refine eqF_cons _ _ _ _ (.int .i32 0) (by simp) ?_ ?_ ?_ w
  · exact pInt _ _ _ _ _ Yba.underlying21 rfl
  · exact eInt _ _ _ _ _ Yba.underlying21
  clear w; intro w
  exact eqF_nil _ _ _ w
theorem neq60 (id ix : Int) (w : World) : (binOp .neq 60 (.agg (cEnc id ix).toArray) (.agg (cEnc id ix).toArray)).run Yba.prog w = .ok (.bool false) w := by
  have h : (Op.equalIn 10000 60 (.agg (cEnc id ix).toArray) (.agg (cEnc id ix).toArray)).run Yba.prog w = .ok true w := eq60 9997 id ix w
  rw [run_neq_struct, h]
  rfl
end Go.Proofs.Ybulkedlg
