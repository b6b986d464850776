import Derived.Test.YbulkedksFmtHex
import Derived.Stop.IfaceNil
import Derived.Deep.MidRow
import Derived.Stop.FmtLaws
import GoSem.ClaimData
namespace Go.Proofs.YbulkedksFmt
open Go.RowKit Go.Extern.Stop Go.Stop Go.Extern
set_option linter.unusedVariables false

theorem run_text_some (P : Program) (name : String) (head : List (List UInt8)) (ops : List (List UInt8 × List UInt8)) (w : World) :
    ∃ (s : ByteArray) (w' : World), (FmtStop.text name head ops).run P w = .ok (.string s) w' ∧ (w' = w ∨ w' = w.drew) := by
  unfold FmtStop.text
  simp only [Sem.run_bind, run_choose_drew]
  split
  · simp only [Result.andThen_ok, Sem.run_pure, FmtStop.str]
    exact ⟨_, _, rfl, .inl rfl⟩
  · simp only [Result.andThen_ok, Sem.run_pure, FmtStop.str]
    exact ⟨_, _, rfl, .inr rfl⟩

theorem run_readAll_some (P : Program) (name : String) (wrap : Bool) (vs : List Value) (w : World) : ∀ ps : List (Nat × UInt8 × Bool),
    (∀ p ∈ ps, ∃ v r, vs[p.1]? = some v ∧ (FmtStop.operand name wrap p.2.1 p.2.2 v).run P w = .ok r w) → ∃ rs, (FmtStop.readAll name wrap vs ps).run P w = .ok rs w
  | [], _ => ⟨[], by simp [FmtStop.readAll]⟩
  | (i, verb, sharp) :: rest, h => by
    obtain ⟨v, r, hv, hr⟩ := h (i, verb, sharp) (by simp)
    obtain ⟨rs, hrs⟩ := run_readAll_some P name wrap vs w rest (fun p hp => h p (by simp [hp]))
    refine ⟨r :: rs, ?_⟩
    simp only at hv hr
    simp [FmtStop.readAll, hv, hr, hrs]

theorem Ybaf.guard (name : String) (w : World) : (FmtStop.guard name).run Ybaf.prog w = .ok () w := by kernel_rfl
theorem Ybaf.ptr56 (w : World) : (FmtStop.ptrTo "errors.errorString").run Ybaf.prog w = .ok 56 w := by kernel_rfl
theorem Ybaf.elem56 (w : World) : (elemOf 56).run Ybaf.prog w = .ok 58 w := by kernel_rfl
theorem Ybaf.ptr55 (w : World) : (FmtStop.ptrTo "fmt.wrapError").run Ybaf.prog w = .ok 55 w := by kernel_rfl
theorem Ybaf.elem55 (w : World) : (elemOf 55).run Ybaf.prog w = .ok 97 w := by kernel_rfl
theorem Ybaf.isError56 (w : World) : (FmtDoors.textMethod 56 "Error").run Ybaf.prog w = .ok true w := by kernel_rfl

/-- An error of fmt's or errors' own make: its first cell is its text. -/
def ErrAt (w : World) (v : Value) : Prop := ∃ (a : Addr) (s : ByteArray), (v = .iface 56 (.pointer (some a)) ∨ v = .iface 55 (.pointer (some a))) ∧ w.cell? a = some (.string s)

theorem run_errorf_plain (f : ByteArray) (g n cap : Nat) (vs : List Value) (ps : List (Nat × UInt8 × Bool)) (w : World) (hn : vs.length = n) (h0 : 0 < n)
    (hvs : ∀ j v, vs[j]? = some v → w.cell? ⟨g, j, none⟩ = some v) (hp : ∀ w, (FmtDoors.printed f n).run Ybaf.prog w = .ok ps w)
    (hr : ∀ p ∈ ps, ∃ v r, vs[p.1]? = some v ∧ (FmtStop.operand "fmt.errorf" true p.2.1 p.2.2 v).run Ybaf.prog w = .ok r w)
    (hw : ps.filter (·.2.1 == 119) = []) :
    ∃ a s w', (FmtStop.errorf #[9, 53] #[44] #[.string f, .slice (some ⟨g, 0, none⟩) n cap]).run Ybaf.prog w = .ok (.iface 56 (.pointer (some a))) w' ∧ w'.cell? a = some (.string s) ∧ Below w.heap.size w w' := by
  have hl : (loadCells ⟨g, 0, none⟩ n).run Ybaf.prog w = .ok vs.toArray w := by
    have := run_loadCells_list (P := Ybaf.prog) w ⟨g, 0, none⟩ vs (fun j v hv => by rw [Addr.add_mid]; simpa using hvs j v hv)
    rw [hn] at this; exact this
  obtain ⟨rs, hrs⟩ := run_readAll_some Ybaf.prog "fmt.errorf" true vs w ps hr
  obtain ⟨s, w1, ht, hw1⟩ := run_text_some Ybaf.prog "fmt.errorf" [f.data.toList] rs w
  have hp' := hp w
  rw [← hn] at hp'
  refine ⟨⟨w1.heap.size, 0, none⟩, s, w1.alloc (.cells #[.string s] 58), ?_, ?_, ?_⟩
  · rw [FmtStop.errorf_lit]
    simp [FmtStop.cells, Ybaf.guard, hl, hp', hrs, ht, hw, Ybaf.ptr56, Ybaf.elem56, newVar, newRow, Value.cells]
    rintro rfl
    simp at hn; omega
  · simp
  · rcases hw1 with rfl | rfl
    · exact (Below.refl _ _).alloc (Nat.le_refl _) _
    · exact (Below.refl _ _).drew.alloc (Nat.le_refl _) _

theorem run_errorf_wrap (f : ByteArray) (g n cap : Nat) (vs : List Value) (ps : List (Nat × UInt8 × Bool)) (w : World) (hn : vs.length = n) (h0 : 0 < n)
    (hvs : ∀ j v, vs[j]? = some v → w.cell? ⟨g, j, none⟩ = some v) (hp : ∀ w, (FmtDoors.printed f n).run Ybaf.prog w = .ok ps w)
    (hr : ∀ p ∈ ps, ∃ v r, vs[p.1]? = some v ∧ (FmtStop.operand "fmt.errorf" true p.2.1 p.2.2 v).run Ybaf.prog w = .ok r w)
    (i : Nat) (b : UInt8) (c : Bool) (hw : ps.filter (·.2.1 == 119) = [(i, b, c)]) (x : Value) (hx : vs[i]? = some (.iface 56 x)) :
    ∃ v w', (FmtStop.errorf #[9, 53] #[44] #[.string f, .slice (some ⟨g, 0, none⟩) n cap]).run Ybaf.prog w = .ok v w' ∧ ErrAt w' v ∧ Below w.heap.size w w' := by
  have hl : (loadCells ⟨g, 0, none⟩ n).run Ybaf.prog w = .ok vs.toArray w := by
    have := run_loadCells_list (P := Ybaf.prog) w ⟨g, 0, none⟩ vs (fun j v hv => by rw [Addr.add_mid]; simpa using hvs j v hv)
    rw [hn] at this; exact this
  obtain ⟨rs, hrs⟩ := run_readAll_some Ybaf.prog "fmt.errorf" true vs w ps hr
  obtain ⟨s, w1, ht, hw1⟩ := run_text_some Ybaf.prog "fmt.errorf" [f.data.toList] rs w
  have hp' := hp w
  rw [← hn] at hp'
  refine ⟨.iface 55 (.pointer (some ⟨w1.heap.size, 0, none⟩)), w1.alloc (.cells #[.string s, .iface 56 x] 97), ?_, ?_, ?_⟩
  · rw [FmtStop.errorf_lit]
    simp [FmtStop.cells, Ybaf.guard, hl, hp', hrs, ht, hw, hx, Ybaf.ptr55, Ybaf.elem55, Ybaf.isError56, newVar, newRow, Value.cells]
    rintro rfl
    simp at hn; omega
  · exact ⟨⟨w1.heap.size, 0, none⟩, s, .inr rfl, by simp⟩
  · rcases hw1 with rfl | rfl
    · exact (Below.refl _ _).alloc (Nat.le_refl _) _
    · exact (Below.refl _ _).drew.alloc (Nat.le_refl _) _

theorem Ybaf.call12 (args : Array Value) (w : World) : (callFunc 12 args).run Ybaf.prog w = ((FmtStop.errorf #[9, 53] #[44] args).run Ybaf.prog w).andThen fun v w' => .ok (.value v) w' :=
  run_callFunc_extern Ybaf.func12 (by kernel_rfl) (by kernel_rfl) (by kernel_rfl) (by kernel_rfl) args w

set_option maxHeartbeats 400000 in
/-- fmt.Errorf, its stop's run being known: it hands that error back. -/
theorem Errorf_of (f : ByteArray) (a : Value) (w w' : World) (v : Value)
    (hrun : (FmtStop.errorf #[9, 53] #[44] #[.string f, a]).run Ybaf.prog w = .ok v w') (hv : ErrAt w' v) :
    Calls Ybaf.prog 9 #[.string f, a] w fun e w1 => e = .returned v ∧ w1 = w' := by
  have hc := Ybaf.call12 #[.string f, a] w
  rw [hrun] at hc
  clear hrun
  obtain ⟨p, s, hv, hs⟩ := hv
  have hi : Ybaf.prog.isIface 44 = true := by kernel_rfl
  rcases hv with rfl | rfl
  all_goals
    go_enter Ybaf.func9, Ybaf.ntmps9
    go_wp2
    go_ret
    exact ⟨rfl, rfl⟩

/-- What fmt.Errorf leaves: an error that is not nil; nothing old has turned. -/
def ErrPost (w : World) : Ending → World → Prop := fun e w1 => ∃ v, e = .returned v ∧ ErrAt w1 v ∧ Below w.heap.size w w1

/-- An error of errors.New's make. -/
def Err56 (w : World) : Ending → World → Prop := fun e w1 => ∃ a s, e = .returned (.iface 56 (.pointer (some a))) ∧ w1.cell? a = some (.string s) ∧ Below w.heap.size w w1

theorem Err56.post {w : World} {e : Ending} {w1 : World} (h : Err56 w e w1) : ErrPost w e w1 := by
  obtain ⟨a, s, rfl, hs, hb⟩ := h
  exact ⟨_, rfl, ⟨a, s, .inl rfl, hs⟩, hb⟩

/-- An operand that the stop can read. -/
def Opd (w : World) (verb : UInt8) (v : Value) : Prop := ∃ r, (FmtStop.operand "fmt.errorf" true verb false v).run Ybaf.prog w = .ok r w

theorem opd_i64 (w : World) (x : Int) : Opd w 100 (.iface 2 (.int .i64 x)) := ⟨([5, 5, 0, 0, 0, 0, 0, 0, 0, 105, 110, 116, 54, 52], Go.Extern.Stop.digits 8 (x % 2 ^ 64).toNat), by kernel_rfl⟩
theorem opd_int (w : World) (x : Int) : Opd w 100 (.iface 3 (.int .i64 x)) := ⟨([5, 3, 0, 0, 0, 0, 0, 0, 0, 105, 110, 116], Go.Extern.Stop.digits 8 (x % 2 ^ 64).toNat), by kernel_rfl⟩
theorem opd_q (w : World) (s : ByteArray) : Opd w 113 (.iface 9 (.string s)) := ⟨([12, 6, 0, 0, 0, 0, 0, 0, 0, 115, 116, 114, 105, 110, 103], FmtStop.pack s.data.toList), by kernel_rfl⟩
theorem opd_s (w : World) (s : ByteArray) : Opd w 115 (.iface 9 (.string s)) := ⟨([12, 6, 0, 0, 0, 0, 0, 0, 0, 115, 116, 114, 105, 110, 103], FmtStop.pack s.data.toList), by kernel_rfl⟩
theorem opd_nil (w : World) : Opd w 118 .nilIface := ⟨([0], []), by kernel_rfl⟩
/-- A pointer type's name: an asterisk (sign 42) ahead of its element's. -/
def starred (s : String) : String := String.singleton (Char.ofNat 42) ++ s
theorem opd_err56 (w : World) (a : Addr) (s : ByteArray) (hc : w.cell? a = some (.string s)) (verb : UInt8) (hv : verb = 118 ∨ verb = 119) : Opd w verb (.iface 56 (.pointer (some a))) := by
  have h1 : (typeStr 56).run Ybaf.prog w = .ok (starred "errors.errorString") w := by kernel_rfl
  have d2 : Ybaf.t56.desc = .pointer 58 := rfl
  have d3 : Ybaf.t58.desc = .named "errors.errorString" 57 := rfl
  refine ⟨(14 :: FmtStop.pack (starred "errors.errorString").toUTF8.data.toList, s.data.toList), ?_⟩
  rcases hv with rfl | rfl <;> simp [FmtStop.operand, h1, d2, d3, run_load, hc]
theorem opd_err55 (w : World) (a : Addr) (s : ByteArray) (hc : w.cell? a = some (.string s)) (verb : UInt8) (hv : verb = 118 ∨ verb = 119) : Opd w verb (.iface 55 (.pointer (some a))) := by
  have h1 : (typeStr 55).run Ybaf.prog w = .ok (starred "fmt.wrapError") w := by kernel_rfl
  have d2 : Ybaf.t55.desc = .pointer 97 := rfl
  have d3 : Ybaf.t97.desc = .named "fmt.wrapError" 96 := rfl
  refine ⟨(14 :: FmtStop.pack (starred "fmt.wrapError").toUTF8.data.toList, s.data.toList), ?_⟩
  rcases hv with rfl | rfl <;> simp [FmtStop.operand, h1, d2, d3, run_load, hc]
theorem opd_err (w : World) (v : Value) (h : ErrAt w v) (verb : UInt8) (hv : verb = 118 ∨ verb = 119) : Opd w verb v := by
  obtain ⟨a, s, rfl | rfl, hc⟩ := h
  · exact opd_err56 w a s hc verb hv
  · exact opd_err55 w a s hc verb hv

theorem Errorf_plain {f : ByteArray} {g n cap : Nat} (vs : List Value) (ps : List (Nat × UInt8 × Bool)) {w : World} (hn : vs.length = n) (h0 : 0 < n)
    (hvs : ∀ j v, vs[j]? = some v → w.cell? ⟨g, j, none⟩ = some v) (hp : ∀ w, (FmtDoors.printed f n).run Ybaf.prog w = .ok ps w)
    (hr : ∀ p ∈ ps, p.2.2 = false ∧ ∃ v, vs[p.1]? = some v ∧ Opd w p.2.1 v)
    (hw : ps.filter (·.2.1 == 119) = []) :
    Calls Ybaf.prog 9 #[.string f, .slice (some ⟨g, 0, none⟩) n cap] w (Err56 w) := by
  obtain ⟨a, s, w', h1, h2, h3⟩ := run_errorf_plain f g n cap vs ps w hn h0 hvs hp (fun p hp => by
    obtain ⟨e, v, hv, r, hr⟩ := hr p hp
    exact ⟨v, r, hv, by rw [e]; exact hr⟩) hw
  refine (Errorf_of f _ w w' _ h1 ⟨a, s, .inl rfl, h2⟩).mono ?_
  rintro e w1 ⟨rfl, rfl⟩
  exact ⟨a, s, rfl, h2, h3⟩

theorem Errorf_wrap {f : ByteArray} {g n cap : Nat} (vs : List Value) (ps : List (Nat × UInt8 × Bool)) {w : World} (hn : vs.length = n) (h0 : 0 < n)
    (hvs : ∀ j v, vs[j]? = some v → w.cell? ⟨g, j, none⟩ = some v) (hp : ∀ w, (FmtDoors.printed f n).run Ybaf.prog w = .ok ps w)
    (hr : ∀ p ∈ ps, p.2.2 = false ∧ ∃ v, vs[p.1]? = some v ∧ Opd w p.2.1 v)
    (i : Nat) (b : UInt8) (c : Bool) (hw : ps.filter (·.2.1 == 119) = [(i, b, c)]) (x : Value) (hx : vs[i]? = some (.iface 56 x)) :
    Calls Ybaf.prog 9 #[.string f, .slice (some ⟨g, 0, none⟩) n cap] w (ErrPost w) := by
  obtain ⟨v, w', h1, h2, h3⟩ := run_errorf_wrap f g n cap vs ps w hn h0 hvs hp (fun p hp => by
    obtain ⟨e, v, hv, r, hr⟩ := hr p hp
    exact ⟨v, r, hv, by rw [e]; exact hr⟩) i b c hw x hx
  refine (Errorf_of f _ w w' v h1 h2).mono ?_
  rintro e w1 ⟨rfl, rfl⟩
  exact ⟨v, rfl, h2, h3⟩

theorem cells1 {w : World} {g : Nat} {a : Value} (ha : w.cell? ⟨g, 0, none⟩ = some a) : ∀ j v, [a][j]? = some v → w.cell? ⟨g, j, none⟩ = some v := by
  intro j v hj
  match j, hj with
  | 0, hj => simp at hj; subst hj; exact ha
theorem cells2 {w : World} {g : Nat} {a b : Value} (ha : w.cell? ⟨g, 0, none⟩ = some a) (hb : w.cell? ⟨g, 1, none⟩ = some b) : ∀ j v, [a, b][j]? = some v → w.cell? ⟨g, j, none⟩ = some v := by
  intro j v hj
  match j, hj with
  | 0, hj => simp at hj; subst hj; exact ha
  | 1, hj => simp at hj; subst hj; exact hb
theorem cells3 {w : World} {g : Nat} {a b c : Value} (ha : w.cell? ⟨g, 0, none⟩ = some a) (hb : w.cell? ⟨g, 1, none⟩ = some b) (hc : w.cell? ⟨g, 2, none⟩ = some c) : ∀ j v, [a, b, c][j]? = some v → w.cell? ⟨g, j, none⟩ = some v := by
  intro j v hj
  match j, hj with
  | 0, hj => simp at hj; subst hj; exact ha
  | 1, hj => simp at hj; subst hj; exact hb
  | 2, hj => simp at hj; subst hj; exact hc
theorem cells4 {w : World} {g : Nat} {a b c d : Value} (ha : w.cell? ⟨g, 0, none⟩ = some a) (hb : w.cell? ⟨g, 1, none⟩ = some b) (hc : w.cell? ⟨g, 2, none⟩ = some c) (hd : w.cell? ⟨g, 3, none⟩ = some d) : ∀ j v, [a, b, c, d][j]? = some v → w.cell? ⟨g, j, none⟩ = some v := by
  intro j v hj
  match j, hj with
  | 0, hj => simp at hj; subst hj; exact ha
  | 1, hj => simp at hj; subst hj; exact hb
  | 2, hj => simp at hj; subst hj; exact hc
  | 3, hj => simp at hj; subst hj; exact hd

-- "offset %d is not %d"
theorem Ybaf.fmt0 (w : World) : (FmtDoors.printed ⟨#[111, 102, 102, 115, 101, 116, 32, 37, 100, 32, 105, 115, 32, 110, 111, 116, 32, 37, 100]⟩ 2).run Ybaf.prog w = .ok [(0, 100, false), (1, 100, false)] w := by kernel_rfl
theorem errf0 {g cap : Nat} {w : World} (x0 : Int) (x1 : Int) (c0 : w.cell? ⟨g, 0, none⟩ = some (.iface 2 (.int .i64 x0))) (c1 : w.cell? ⟨g, 1, none⟩ = some (.iface 2 (.int .i64 x1))) :
    Calls Ybaf.prog 9 #[.string ⟨#[111, 102, 102, 115, 101, 116, 32, 37, 100, 32, 105, 115, 32, 110, 111, 116, 32, 37, 100]⟩, .slice (some ⟨g, 0, none⟩) 2 cap] w (Err56 w) :=
  Errorf_plain [.iface 2 (.int .i64 x0), .iface 2 (.int .i64 x1)] _ rfl (by decide) (cells2 c0 c1) Ybaf.fmt0 (by
    intro p hp; simp only [List.mem_cons, List.not_mem_nil, or_false] at hp
    rcases hp with rfl | rfl
    · exact ⟨rfl, _, rfl, opd_i64 _ _⟩
    · exact ⟨rfl, _, rfl, opd_i64 _ _⟩) rfl

-- "length %d is not 1 or more"
theorem Ybaf.fmt1 (w : World) : (FmtDoors.printed ⟨#[108, 101, 110, 103, 116, 104, 32, 37, 100, 32, 105, 115, 32, 110, 111, 116, 32, 49, 32, 111, 114, 32, 109, 111, 114, 101]⟩ 1).run Ybaf.prog w = .ok [(0, 100, false)] w := by kernel_rfl
theorem errf1 {g cap : Nat} {w : World} (x0 : Int) (c0 : w.cell? ⟨g, 0, none⟩ = some (.iface 2 (.int .i64 x0))) :
    Calls Ybaf.prog 9 #[.string ⟨#[108, 101, 110, 103, 116, 104, 32, 37, 100, 32, 105, 115, 32, 110, 111, 116, 32, 49, 32, 111, 114, 32, 109, 111, 114, 101]⟩, .slice (some ⟨g, 0, none⟩) 1 cap] w (Err56 w) :=
  Errorf_plain [.iface 2 (.int .i64 x0)] _ rfl (by decide) (cells1 c0) Ybaf.fmt1 (by
    intro p hp; simp only [List.mem_cons, List.not_mem_nil, or_false] at hp
    rcases hp with rfl
    · exact ⟨rfl, _, rfl, opd_i64 _ _⟩) rfl

-- "id %q is not 64 lower-case hex digits"
theorem Ybaf.fmt2 (w : World) : (FmtDoors.printed ⟨#[105, 100, 32, 37, 113, 32, 105, 115, 32, 110, 111, 116, 32, 54, 52, 32, 108, 111, 119, 101, 114, 45, 99, 97, 115, 101, 32, 104, 101, 120, 32, 100, 105, 103, 105, 116, 115]⟩ 1).run Ybaf.prog w = .ok [(0, 113, false)] w := by kernel_rfl
theorem errf2 {g cap : Nat} {w : World} (x0 : ByteArray) (c0 : w.cell? ⟨g, 0, none⟩ = some (.iface 9 (.string x0))) :
    Calls Ybaf.prog 9 #[.string ⟨#[105, 100, 32, 37, 113, 32, 105, 115, 32, 110, 111, 116, 32, 54, 52, 32, 108, 111, 119, 101, 114, 45, 99, 97, 115, 101, 32, 104, 101, 120, 32, 100, 105, 103, 105, 116, 115]⟩, .slice (some ⟨g, 0, none⟩) 1 cap] w (Err56 w) :=
  Errorf_plain [.iface 9 (.string x0)] _ rfl (by decide) (cells1 c0) Ybaf.fmt2 (by
    intro p hp; simp only [List.mem_cons, List.not_mem_nil, or_false] at hp
    rcases hp with rfl
    · exact ⟨rfl, _, rfl, opd_q _ _⟩) rfl

-- "size %d is negative"
theorem Ybaf.fmt3 (w : World) : (FmtDoors.printed ⟨#[115, 105, 122, 101, 32, 37, 100, 32, 105, 115, 32, 110, 101, 103, 97, 116, 105, 118, 101]⟩ 1).run Ybaf.prog w = .ok [(0, 100, false)] w := by kernel_rfl
theorem errf3 {g cap : Nat} {w : World} (x0 : Int) (c0 : w.cell? ⟨g, 0, none⟩ = some (.iface 2 (.int .i64 x0))) :
    Calls Ybaf.prog 9 #[.string ⟨#[115, 105, 122, 101, 32, 37, 100, 32, 105, 115, 32, 110, 101, 103, 97, 116, 105, 118, 101]⟩, .slice (some ⟨g, 0, none⟩) 1 cap] w (Err56 w) :=
  Errorf_plain [.iface 2 (.int .i64 x0)] _ rfl (by decide) (cells1 c0) Ybaf.fmt3 (by
    intro p hp; simp only [List.mem_cons, List.not_mem_nil, or_false] at hp
    rcases hp with rfl
    · exact ⟨rfl, _, rfl, opd_i64 _ _⟩) rfl

-- "chunk_size %d is negative"
theorem Ybaf.fmt4 (w : World) : (FmtDoors.printed ⟨#[99, 104, 117, 110, 107, 95, 115, 105, 122, 101, 32, 37, 100, 32, 105, 115, 32, 110, 101, 103, 97, 116, 105, 118, 101]⟩ 1).run Ybaf.prog w = .ok [(0, 100, false)] w := by kernel_rfl
theorem errf4 {g cap : Nat} {w : World} (x0 : Int) (c0 : w.cell? ⟨g, 0, none⟩ = some (.iface 2 (.int .i64 x0))) :
    Calls Ybaf.prog 9 #[.string ⟨#[99, 104, 117, 110, 107, 95, 115, 105, 122, 101, 32, 37, 100, 32, 105, 115, 32, 110, 101, 103, 97, 116, 105, 118, 101]⟩, .slice (some ⟨g, 0, none⟩) 1 cap] w (Err56 w) :=
  Errorf_plain [.iface 2 (.int .i64 x0)] _ rfl (by decide) (cells1 c0) Ybaf.fmt4 (by
    intro p hp; simp only [List.mem_cons, List.not_mem_nil, or_false] at hp
    rcases hp with rfl
    · exact ⟨rfl, _, rfl, opd_i64 _ _⟩) rfl

-- "%d chunks where %d bytes in chunks of %d make %d"
theorem Ybaf.fmt5 (w : World) : (FmtDoors.printed ⟨#[37, 100, 32, 99, 104, 117, 110, 107, 115, 32, 119, 104, 101, 114, 101, 32, 37, 100, 32, 98, 121, 116, 101, 115, 32, 105, 110, 32, 99, 104, 117, 110, 107, 115, 32, 111, 102, 32, 37, 100, 32, 109, 97, 107, 101, 32, 37, 100]⟩ 4).run Ybaf.prog w = .ok [(0, 100, false), (1, 100, false), (2, 100, false), (3, 100, false)] w := by kernel_rfl
theorem errf5 {g cap : Nat} {w : World} (x0 : Int) (x1 : Int) (x2 : Int) (x3 : Int) (c0 : w.cell? ⟨g, 0, none⟩ = some (.iface 3 (.int .i64 x0))) (c1 : w.cell? ⟨g, 1, none⟩ = some (.iface 2 (.int .i64 x1))) (c2 : w.cell? ⟨g, 2, none⟩ = some (.iface 2 (.int .i64 x2))) (c3 : w.cell? ⟨g, 3, none⟩ = some (.iface 2 (.int .i64 x3))) :
    Calls Ybaf.prog 9 #[.string ⟨#[37, 100, 32, 99, 104, 117, 110, 107, 115, 32, 119, 104, 101, 114, 101, 32, 37, 100, 32, 98, 121, 116, 101, 115, 32, 105, 110, 32, 99, 104, 117, 110, 107, 115, 32, 111, 102, 32, 37, 100, 32, 109, 97, 107, 101, 32, 37, 100]⟩, .slice (some ⟨g, 0, none⟩) 4 cap] w (Err56 w) :=
  Errorf_plain [.iface 3 (.int .i64 x0), .iface 2 (.int .i64 x1), .iface 2 (.int .i64 x2), .iface 2 (.int .i64 x3)] _ rfl (by decide) (cells4 c0 c1 c2 c3) Ybaf.fmt5 (by
    intro p hp; simp only [List.mem_cons, List.not_mem_nil, or_false] at hp
    rcases hp with rfl | rfl | rfl | rfl
    · exact ⟨rfl, _, rfl, opd_int _ _⟩
    · exact ⟨rfl, _, rfl, opd_i64 _ _⟩
    · exact ⟨rfl, _, rfl, opd_i64 _ _⟩
    · exact ⟨rfl, _, rfl, opd_i64 _ _⟩) rfl

-- "chunks[%d]: %w"
theorem Ybaf.fmt6 (w : World) : (FmtDoors.printed ⟨#[99, 104, 117, 110, 107, 115, 91, 37, 100, 93, 58, 32, 37, 119]⟩ 2).run Ybaf.prog w = .ok [(0, 100, false), (1, 119, false)] w := by kernel_rfl
theorem errf6 {g cap : Nat} {w : World} (x0 : Int) (x1 : Addr) (s1 : ByteArray) (hs : w.cell? x1 = some (.string s1)) (c0 : w.cell? ⟨g, 0, none⟩ = some (.iface 3 (.int .i64 x0))) (c1 : w.cell? ⟨g, 1, none⟩ = some (.iface 56 (.pointer (some x1)))) :
    Calls Ybaf.prog 9 #[.string ⟨#[99, 104, 117, 110, 107, 115, 91, 37, 100, 93, 58, 32, 37, 119]⟩, .slice (some ⟨g, 0, none⟩) 2 cap] w (ErrPost w) :=
  Errorf_wrap [.iface 3 (.int .i64 x0), .iface 56 (.pointer (some x1))] _ rfl (by decide) (cells2 c0 c1) Ybaf.fmt6 (by
    intro p hp; simp only [List.mem_cons, List.not_mem_nil, or_false] at hp
    rcases hp with rfl | rfl
    · exact ⟨rfl, _, rfl, opd_int _ _⟩
    · exact ⟨rfl, _, rfl, opd_err56 _ _ _ hs _ (.inr rfl)⟩) 1 119 false rfl _ rfl

-- "chunks[%d] has length %d, not %d"
theorem Ybaf.fmt7 (w : World) : (FmtDoors.printed ⟨#[99, 104, 117, 110, 107, 115, 91, 37, 100, 93, 32, 104, 97, 115, 32, 108, 101, 110, 103, 116, 104, 32, 37, 100, 44, 32, 110, 111, 116, 32, 37, 100]⟩ 3).run Ybaf.prog w = .ok [(0, 100, false), (1, 100, false), (2, 100, false)] w := by kernel_rfl
theorem errf7 {g cap : Nat} {w : World} (x0 : Int) (x1 : Int) (x2 : Int) (c0 : w.cell? ⟨g, 0, none⟩ = some (.iface 3 (.int .i64 x0))) (c1 : w.cell? ⟨g, 1, none⟩ = some (.iface 2 (.int .i64 x1))) (c2 : w.cell? ⟨g, 2, none⟩ = some (.iface 2 (.int .i64 x2))) :
    Calls Ybaf.prog 9 #[.string ⟨#[99, 104, 117, 110, 107, 115, 91, 37, 100, 93, 32, 104, 97, 115, 32, 108, 101, 110, 103, 116, 104, 32, 37, 100, 44, 32, 110, 111, 116, 32, 37, 100]⟩, .slice (some ⟨g, 0, none⟩) 3 cap] w (Err56 w) :=
  Errorf_plain [.iface 3 (.int .i64 x0), .iface 2 (.int .i64 x1), .iface 2 (.int .i64 x2)] _ rfl (by decide) (cells3 c0 c1 c2) Ybaf.fmt7 (by
    intro p hp; simp only [List.mem_cons, List.not_mem_nil, or_false] at hp
    rcases hp with rfl | rfl | rfl
    · exact ⟨rfl, _, rfl, opd_int _ _⟩
    · exact ⟨rfl, _, rfl, opd_i64 _ _⟩
    · exact ⟨rfl, _, rfl, opd_i64 _ _⟩) rfl

-- "chunks[%d] has length %d, not 1 to %d"
theorem Ybaf.fmt8 (w : World) : (FmtDoors.printed ⟨#[99, 104, 117, 110, 107, 115, 91, 37, 100, 93, 32, 104, 97, 115, 32, 108, 101, 110, 103, 116, 104, 32, 37, 100, 44, 32, 110, 111, 116, 32, 49, 32, 116, 111, 32, 37, 100]⟩ 3).run Ybaf.prog w = .ok [(0, 100, false), (1, 100, false), (2, 100, false)] w := by kernel_rfl
theorem errf8 {g cap : Nat} {w : World} (x0 : Int) (x1 : Int) (x2 : Int) (c0 : w.cell? ⟨g, 0, none⟩ = some (.iface 3 (.int .i64 x0))) (c1 : w.cell? ⟨g, 1, none⟩ = some (.iface 2 (.int .i64 x1))) (c2 : w.cell? ⟨g, 2, none⟩ = some (.iface 3 (.int .i64 x2))) :
    Calls Ybaf.prog 9 #[.string ⟨#[99, 104, 117, 110, 107, 115, 91, 37, 100, 93, 32, 104, 97, 115, 32, 108, 101, 110, 103, 116, 104, 32, 37, 100, 44, 32, 110, 111, 116, 32, 49, 32, 116, 111, 32, 37, 100]⟩, .slice (some ⟨g, 0, none⟩) 3 cap] w (Err56 w) :=
  Errorf_plain [.iface 3 (.int .i64 x0), .iface 2 (.int .i64 x1), .iface 3 (.int .i64 x2)] _ rfl (by decide) (cells3 c0 c1 c2) Ybaf.fmt8 (by
    intro p hp; simp only [List.mem_cons, List.not_mem_nil, or_false] at hp
    rcases hp with rfl | rfl | rfl
    · exact ⟨rfl, _, rfl, opd_int _ _⟩
    · exact ⟨rfl, _, rfl, opd_i64 _ _⟩
    · exact ⟨rfl, _, rfl, opd_int _ _⟩) rfl

-- "the chunks make %d bytes, not the size, %d"
theorem Ybaf.fmt9 (w : World) : (FmtDoors.printed ⟨#[116, 104, 101, 32, 99, 104, 117, 110, 107, 115, 32, 109, 97, 107, 101, 32, 37, 100, 32, 98, 121, 116, 101, 115, 44, 32, 110, 111, 116, 32, 116, 104, 101, 32, 115, 105, 122, 101, 44, 32, 37, 100]⟩ 2).run Ybaf.prog w = .ok [(0, 100, false), (1, 100, false)] w := by kernel_rfl
theorem errf9 {g cap : Nat} {w : World} (x0 : Int) (x1 : Int) (c0 : w.cell? ⟨g, 0, none⟩ = some (.iface 2 (.int .i64 x0))) (c1 : w.cell? ⟨g, 1, none⟩ = some (.iface 2 (.int .i64 x1))) :
    Calls Ybaf.prog 9 #[.string ⟨#[116, 104, 101, 32, 99, 104, 117, 110, 107, 115, 32, 109, 97, 107, 101, 32, 37, 100, 32, 98, 121, 116, 101, 115, 44, 32, 110, 111, 116, 32, 116, 104, 101, 32, 115, 105, 122, 101, 44, 32, 37, 100]⟩, .slice (some ⟨g, 0, none⟩) 2 cap] w (Err56 w) :=
  Errorf_plain [.iface 2 (.int .i64 x0), .iface 2 (.int .i64 x1)] _ rfl (by decide) (cells2 c0 c1) Ybaf.fmt9 (by
    intro p hp; simp only [List.mem_cons, List.not_mem_nil, or_false] at hp
    rcases hp with rfl | rfl
    · exact ⟨rfl, _, rfl, opd_i64 _ _⟩
    · exact ⟨rfl, _, rfl, opd_i64 _ _⟩) rfl

-- "%s sent a malformed manifest for object %s (%v)"
theorem Ybaf.fmt10 (w : World) : (FmtDoors.printed ⟨#[37, 115, 32, 115, 101, 110, 116, 32, 97, 32, 109, 97, 108, 102, 111, 114, 109, 101, 100, 32, 109, 97, 110, 105, 102, 101, 115, 116, 32, 102, 111, 114, 32, 111, 98, 106, 101, 99, 116, 32, 37, 115, 32, 40, 37, 118, 41]⟩ 3).run Ybaf.prog w = .ok [(0, 115, false), (1, 115, false), (2, 118, false)] w := by kernel_rfl
theorem errf10 {g cap : Nat} {w : World} (x0 : ByteArray) (x1 : ByteArray) (x2 : Value) (hs : x2 = .nilIface ∨ ErrAt w x2) (c0 : w.cell? ⟨g, 0, none⟩ = some (.iface 9 (.string x0))) (c1 : w.cell? ⟨g, 1, none⟩ = some (.iface 9 (.string x1))) (c2 : w.cell? ⟨g, 2, none⟩ = some (x2)) :
    Calls Ybaf.prog 9 #[.string ⟨#[37, 115, 32, 115, 101, 110, 116, 32, 97, 32, 109, 97, 108, 102, 111, 114, 109, 101, 100, 32, 109, 97, 110, 105, 102, 101, 115, 116, 32, 102, 111, 114, 32, 111, 98, 106, 101, 99, 116, 32, 37, 115, 32, 40, 37, 118, 41]⟩, .slice (some ⟨g, 0, none⟩) 3 cap] w (Err56 w) :=
  Errorf_plain [.iface 9 (.string x0), .iface 9 (.string x1), x2] _ rfl (by decide) (cells3 c0 c1 c2) Ybaf.fmt10 (by
    intro p hp; simp only [List.mem_cons, List.not_mem_nil, or_false] at hp
    rcases hp with rfl | rfl | rfl
    · exact ⟨rfl, _, rfl, opd_s _ _⟩
    · exact ⟨rfl, _, rfl, opd_s _ _⟩
    · exact ⟨rfl, _, rfl, by rcases hs with rfl | h; exact opd_nil _; exact opd_err _ _ h _ (.inl rfl)⟩) rfl

end Go.Proofs.YbulkedksFmt
