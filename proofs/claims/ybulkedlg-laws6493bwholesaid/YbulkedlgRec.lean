import Derived.Test.YbulkedlgEqual
namespace Go.Proofs.Ybulkedlg
open Go.RowKit
set_option linter.unusedVariables false

set_option maxRecDepth 100000 in
set_option maxHeartbeats 1000000 in
theorem recodes_any (B T : Nat) (W : World) (a1 ap a3 a4 : Option Addr) (n1 c1 ne ce n3 c3 n4 c4 : Nat) (idf ix : Nat → Int) (h1 : Rs B 66 10 W a1 n1 (fun k => cScan (idf k) (ix k))) (hc : W.cell? ⟨T, 5, none⟩ = some (.slice ap ne ce)) (r : Bool)
    (hr : r = true ↔ (n1 = ne ∧ n3 = n4 ∧ ∀ k, k < n1 → ix k = k)) (hn : n1 ≤ 1048576) :
    Calls Yba.prog 11 #[.pointer (some ⟨T, 0, none⟩), .slice a1 n1 c1, .slice a3 n3 c3, .slice a4 n4 c4] W fun e W' => e = .returned (.bool r) ∧ W' = W := by
  by_cases e1 : n1 = ne
  · by_cases e2 : n3 = n4
    · subst e1
      subst e2
      have hr' : r = true ↔ ∀ k, k < n1 → ix k = k := ⟨fun h => (hr.1 h).2.2, fun h => hr.2 ⟨rfl, rfl, h⟩⟩
      have HR := hide hr'
      clear hr'
      have H1 := hide h1
      clear hr h1
      go_enter Yba.func11, Yba.ntmps11
      go_wp2_with fail
      go_loopw [27] (fun i W' => ∃ k : Nat, k ≤ n1 ∧ i = .int .i64 k ∧ (∀ j, j < k → ix j = j) ∧ W' = W) (fun i _ => n1 - (intOf i).toNat)
      case atStart => exact ⟨0, by omega, rfl, by intro j hj; omega, rfl⟩
      case round =>
        obtain ⟨k, hk, rfl, hall, rfl⟩ := hrel
        have HA := hide hall
        clear hall
        by_cases hlt : k < n1
        · rcases H1.out with ⟨_, h0⟩ | ⟨g, rfl, h1⟩
          · omega
          have hcell : wr.cell? ⟨g, k * 10 + 5, none⟩ = some (.int .i64 (ix k)) := h1.cell hlt rfl
          clear h1 H1
          by_cases e : ix k = k
          · go_wp2_with fail
            go_roundw
            case rel => exact ⟨k + 1, by omega, by go_num, fun j hj => by
              by_cases e' : j = k
              · subst e'; exact e
              · exact HA.out j (by omega), trivial⟩
            case measure => simp [intOf]; omega
          · go_wp2_with fail
            go_ret
            have : r = false := by
              cases r
              · rfl
              · exact absurd (HR.out.1 rfl k hlt) e
            exact ⟨ret_bool this.symm, rfl⟩
        · have : r = true := HR.out.2 fun j hj => HA.out j (by omega)
          subst this
          go_wp2_with fail
          go_ret
          exact ⟨rfl, rfl⟩
    · have : r = false := by
        cases r
        · rfl
        · exact absurd (hr.1 rfl).2.1 e2
      subst this
      clear hr h1
      go_enter Yba.func11, Yba.ntmps11
      go_wp2_with fail
      go_ret
      exact ⟨rfl, rfl⟩
  · have : r = false := by
      cases r
      · rfl
      · exact absurd (hr.1 rfl).1 e1
    subst this
    clear hr h1
    go_enter Yba.func11, Yba.ntmps11
    go_wp2_with fail
    go_ret
    exact ⟨rfl, rfl⟩
end Go.Proofs.Ybulkedlg
