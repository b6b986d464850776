import Derived.Test.YbulkednkFmtTxt
import Derived.Stop.IfaceNil
import Derived.Deep.MidRow
import Derived.Stop.FmtLaws
import GoSem.ClaimData
namespace Go.Proofs.YbulkednkFmt
open Go.RowKit Go.Extern.Stop Go.Stop Go.Extern
set_option linter.unusedVariables false

theorem run_text_some (P : Program) (name : String) (head : List (List UInt8)) (ops : List (List UInt8 × List UInt8)) (w : World) :
    ∃ (s : ByteArray) (w' : World), (FmtStop.text name head ops).run P w = .ok (.string s) w' ∧ (w' = w ∨ w' = w.drew) := by
  unfold FmtStop.text
  simp only [Sem.run_bind, run_choose_drew]
  split
  · simp only [Result.andThen_ok, Sem.run_pure, FmtStop.str]
    exact ⟨_, _, rfl, .inl rfl⟩
  · simp only [Result.andThen_ok, Sem.run_pure, FmtStop.str]
    exact ⟨_, _, rfl, .inr rfl⟩

theorem run_readAll_some (P : Program) (name : String) (wrap : Bool) (vs : List Value) (w : World) : ∀ ps : List (Nat × UInt8 × Bool),
    (∀ p ∈ ps, ∃ v r, vs[p.1]? = some v ∧ (FmtStop.operand name wrap p.2.1 p.2.2 v).run P w = .ok r w) → ∃ rs, (FmtStop.readAll name wrap vs ps).run P w = .ok rs w
  | [], _ => ⟨[], by simp [FmtStop.readAll]⟩
  | (i, verb, sharp) :: rest, h => by
    obtain ⟨v, r, hv, hr⟩ := h (i, verb, sharp) (by simp)
    obtain ⟨rs, hrs⟩ := run_readAll_some P name wrap vs w rest (fun p hp => h p (by simp [hp]))
    refine ⟨r :: rs, ?_⟩
    simp only at hv hr
    simp [FmtStop.readAll, hv, hr, hrs]

theorem fguard (name : String) (w : World) : (FmtStop.guard name).run Ybaf.prog w = .ok () w := by kernel_rfl
theorem ptr76 (w : World) : (FmtStop.ptrTo "errors.errorString").run Ybaf.prog w = .ok 76 w := by kernel_rfl
theorem elem76 (w : World) : (elemOf 76).run Ybaf.prog w = .ok 78 w := by kernel_rfl

theorem run_errorf_plain (f : ByteArray) (g n cap : Nat) (vs : List Value) (ps : List (Nat × UInt8 × Bool)) (w : World) (hn : vs.length = n) (h0 : 0 < n)
    (hvs : ∀ j v, vs[j]? = some v → w.cell? ⟨g, j, none⟩ = some v) (hp : ∀ w, (FmtDoors.printed f n).run Ybaf.prog w = .ok ps w)
    (hr : ∀ p ∈ ps, ∃ v r, vs[p.1]? = some v ∧ (FmtStop.operand "fmt.errorf" true p.2.1 p.2.2 v).run Ybaf.prog w = .ok r w)
    (hw : ps.filter (·.2.1 == 119) = []) :
    ∃ a s w', (FmtStop.errorf #[9, 65] #[34] #[.string f, .slice (some ⟨g, 0, none⟩) n cap]).run Ybaf.prog w = .ok (.iface 76 (.pointer (some a))) w' ∧ w'.cell? a = some (.string s) ∧ Below w.heap.size w w' := by
  have hl : (loadCells ⟨g, 0, none⟩ n).run Ybaf.prog w = .ok vs.toArray w := by
    have := run_loadCells_list (P := Ybaf.prog) w ⟨g, 0, none⟩ vs (fun j v hv => by rw [Addr.add_mid]; simpa using hvs j v hv)
    rw [hn] at this; exact this
  obtain ⟨rs, hrs⟩ := run_readAll_some Ybaf.prog "fmt.errorf" true vs w ps hr
  obtain ⟨s, w1, ht, hw1⟩ := run_text_some Ybaf.prog "fmt.errorf" [f.data.toList] rs w
  have hp' := hp w
  rw [← hn] at hp'
  refine ⟨⟨w1.heap.size, 0, none⟩, s, w1.alloc (.cells #[.string s] 78), ?_, ?_, ?_⟩
  · rw [FmtStop.errorf_lit]
    simp [FmtStop.cells, fguard, hl, hp', hrs, ht, hw, ptr76, elem76, newVar, newRow, Value.cells]
    rintro rfl
    simp at hn; omega
  · simp
  · rcases hw1 with rfl | rfl
    · exact (Below.refl _ _).alloc (Nat.le_refl _) _
    · exact (Below.refl _ _).drew.alloc (Nat.le_refl _) _

theorem call19 (args : Array Value) (w : World) : (callFunc 19 args).run Ybaf.prog w = ((FmtStop.errorf #[9, 65] #[34] args).run Ybaf.prog w).andThen fun v w' => .ok (.value v) w' :=
  run_callFunc_extern Ybaf.func19 (by kernel_rfl) (by kernel_rfl) (by kernel_rfl) (by kernel_rfl) args w

set_option maxHeartbeats 400000 in
/-- fmt.Errorf, its stop's run being known: it hands that error back. -/
theorem Errorf_of (f : ByteArray) (a : Value) (w w' : World) (p : Addr) (s : ByteArray)
    (hrun : (FmtStop.errorf #[9, 65] #[34] #[.string f, a]).run Ybaf.prog w = .ok (.iface 76 (.pointer (some p))) w') (hs : w'.cell? p = some (.string s)) :
    Calls Ybaf.prog 14 #[.string f, a] w fun e w1 => e = .returned (.iface 76 (.pointer (some p))) ∧ w1 = w' := by
  have hc := call19 #[.string f, a] w
  rw [hrun] at hc
  clear hrun
  have hi : Ybaf.prog.isIface 34 = true := by kernel_rfl
  go_enter Ybaf.func14, Ybaf.ntmps14
  go_wp2
  go_ret
  exact ⟨rfl, rfl⟩

/-- What fmt.Errorf leaves: an error that is not nil; nothing old has turned. -/
def ErrPost (w : World) : Ending → World → Prop := fun e w1 => ∃ a, e = .returned (.iface 76 (.pointer (some a))) ∧ Below w.heap.size w w1

/-- An operand that the stop can read. -/
def Opd (w : World) (verb : UInt8) (v : Value) : Prop := ∃ r, (FmtStop.operand "fmt.errorf" true verb false v).run Ybaf.prog w = .ok r w
theorem opd_q (w : World) (s : ByteArray) : Opd w 113 (.iface 9 (.string s)) := ⟨([12, 6, 0, 0, 0, 0, 0, 0, 0, 115, 116, 114, 105, 110, 103], FmtStop.pack s.data.toList), by kernel_rfl⟩
theorem opd_s (w : World) (s : ByteArray) : Opd w 115 (.iface 9 (.string s)) := ⟨([12, 6, 0, 0, 0, 0, 0, 0, 0, 115, 116, 114, 105, 110, 103], FmtStop.pack s.data.toList), by kernel_rfl⟩
theorem Errorf_plain {f : ByteArray} {g n cap : Nat} (vs : List Value) (ps : List (Nat × UInt8 × Bool)) {w : World} (hn : vs.length = n) (h0 : 0 < n)
    (hvs : ∀ j v, vs[j]? = some v → w.cell? ⟨g, j, none⟩ = some v) (hp : ∀ w, (FmtDoors.printed f n).run Ybaf.prog w = .ok ps w)
    (hr : ∀ p ∈ ps, p.2.2 = false ∧ ∃ v, vs[p.1]? = some v ∧ Opd w p.2.1 v)
    (hw : ps.filter (·.2.1 == 119) = []) :
    Calls Ybaf.prog 14 #[.string f, .slice (some ⟨g, 0, none⟩) n cap] w (ErrPost w) := by
  obtain ⟨a, s, w', h1, h2, h3⟩ := run_errorf_plain f g n cap vs ps w hn h0 hvs hp (fun p hp => by
    obtain ⟨e, v, hv, r, hr⟩ := hr p hp
    exact ⟨v, r, hv, by rw [e]; exact hr⟩) hw
  refine (Errorf_of f _ w w' a s h1 h2).mono ?_
  rintro e w1 ⟨rfl, rfl⟩
  exact ⟨a, rfl, h3⟩

theorem cells1 {w : World} {g : Nat} {a : Value} (ha : w.cell? ⟨g, 0, none⟩ = some a) : ∀ j v, [a][j]? = some v → w.cell? ⟨g, j, none⟩ = some v := by
  intro j v hj
  match j, hj with
  | 0, hj => simp at hj; subst hj; exact ha
theorem cells2 {w : World} {g : Nat} {a b : Value} (ha : w.cell? ⟨g, 0, none⟩ = some a) (hb : w.cell? ⟨g, 1, none⟩ = some b) : ∀ j v, [a, b][j]? = some v → w.cell? ⟨g, j, none⟩ = some v := by
  intro j v hj
  match j, hj with
  | 0, hj => simp at hj; subst hj; exact ha
  | 1, hj => simp at hj; subst hj; exact hb
theorem fmt0 (w : World) : (FmtDoors.printed ⟨#[37, 115, 32, 37, 113, 58, 32, 119, 97, 110, 116, 32, 97, 32, 119, 104, 111, 108, 101, 32, 110, 117, 109, 98, 101, 114, 32, 111, 102, 32, 97, 116, 32, 108, 101, 97, 115, 116, 32, 49]⟩ 2).run Ybaf.prog w = .ok [(0, 115, false), (1, 113, false)] w := by kernel_rfl
theorem errf0 {g cap : Nat} {w : World} (x0 x1 : ByteArray) (c0 : w.cell? ⟨g, 0, none⟩ = some (.iface 9 (.string x0))) (c1 : w.cell? ⟨g, 1, none⟩ = some (.iface 9 (.string x1))) :
    Calls Ybaf.prog 14 #[.string ⟨#[37, 115, 32, 37, 113, 58, 32, 119, 97, 110, 116, 32, 97, 32, 119, 104, 111, 108, 101, 32, 110, 117, 109, 98, 101, 114, 32, 111, 102, 32, 97, 116, 32, 108, 101, 97, 115, 116, 32, 49]⟩, .slice (some ⟨g, 0, none⟩) 2 cap] w (ErrPost w) :=
  Errorf_plain [.iface 9 (.string x0), .iface 9 (.string x1)] _ rfl (by decide) (cells2 c0 c1) fmt0 (by
    intro p hp; simp only [List.mem_cons, List.not_mem_nil, or_false] at hp
    rcases hp with rfl | rfl
    · exact ⟨rfl, _, rfl, opd_s _ _⟩
    · exact ⟨rfl, _, rfl, opd_q _ _⟩) rfl
theorem fmt1 (w : World) : (FmtDoors.printed ⟨#[110, 117, 109, 98, 101, 114, 32, 37, 113, 58, 32, 119, 97, 110, 116, 32, 97, 32, 119, 104, 111, 108, 101, 32, 110, 117, 109, 98, 101, 114, 32, 111, 102, 32, 97, 116, 32, 108, 101, 97, 115, 116, 32, 48]⟩ 1).run Ybaf.prog w = .ok [(0, 113, false)] w := by kernel_rfl
theorem errf1 {g cap : Nat} {w : World} (x0 : ByteArray) (c0 : w.cell? ⟨g, 0, none⟩ = some (.iface 9 (.string x0))) :
    Calls Ybaf.prog 14 #[.string ⟨#[110, 117, 109, 98, 101, 114, 32, 37, 113, 58, 32, 119, 97, 110, 116, 32, 97, 32, 119, 104, 111, 108, 101, 32, 110, 117, 109, 98, 101, 114, 32, 111, 102, 32, 97, 116, 32, 108, 101, 97, 115, 116, 32, 48]⟩, .slice (some ⟨g, 0, none⟩) 1 cap] w (ErrPost w) :=
  Errorf_plain [.iface 9 (.string x0)] _ rfl (by decide) (cells1 c0) fmt1 (by
    intro p hp; simp only [List.mem_cons, List.not_mem_nil, or_false] at hp
    rcases hp with rfl
    · exact ⟨rfl, _, rfl, opd_q _ _⟩) rfl
theorem fmt2 (w : World) : (FmtDoors.printed ⟨#[37, 115, 32, 37, 113, 58, 32, 119, 97, 110, 116, 32, 49, 32, 111, 114, 32, 48]⟩ 2).run Ybaf.prog w = .ok [(0, 115, false), (1, 113, false)] w := by kernel_rfl
theorem errf2 {g cap : Nat} {w : World} (x0 x1 : ByteArray) (c0 : w.cell? ⟨g, 0, none⟩ = some (.iface 9 (.string x0))) (c1 : w.cell? ⟨g, 1, none⟩ = some (.iface 9 (.string x1))) :
    Calls Ybaf.prog 14 #[.string ⟨#[37, 115, 32, 37, 113, 58, 32, 119, 97, 110, 116, 32, 49, 32, 111, 114, 32, 48]⟩, .slice (some ⟨g, 0, none⟩) 2 cap] w (ErrPost w) :=
  Errorf_plain [.iface 9 (.string x0), .iface 9 (.string x1)] _ rfl (by decide) (cells2 c0 c1) fmt2 (by
    intro p hp; simp only [List.mem_cons, List.not_mem_nil, or_false] at hp
    rcases hp with rfl | rfl
    · exact ⟨rfl, _, rfl, opd_s _ _⟩
    · exact ⟨rfl, _, rfl, opd_q _ _⟩) rfl
end Go.Proofs.YbulkednkFmt
