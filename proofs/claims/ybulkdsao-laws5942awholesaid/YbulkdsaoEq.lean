/-
  slices.Equal at the spans: two rows that hold the same.
-/
import Derived.Test.YbulkdsaoLi
namespace Go.Proofs.Ybulkdsao
open Go.ChangeShapes Go.WideShapes Go.ChangeAt Go.RowKit
set_option linter.unusedVariables false

set_option maxRecDepth 100000 in
set_option maxHeartbeats 1000000 in
theorem equal_spans (w : World) (np c1 c2 b1 b2 : Nat) (a1 a2 : Option Addr) (ps pe : Nat → Int) (hn : np ≤ 4096) (h1 : 0 < np → a1 = some ⟨b1, 0, none⟩) (h2 : 0 < np → a2 = some ⟨b2, 0, none⟩)
    (s1 : ∀ j, j < np → w.cell? ⟨b1, j * 2, none⟩ = some (.int .i64 (ps j))) (e1 : ∀ j, j < np → w.cell? ⟨b1, j * 2 + 1, none⟩ = some (.int .i64 (pe j)))
    (s2 : ∀ j, j < np → w.cell? ⟨b2, j * 2, none⟩ = some (.int .i64 (ps j))) (e2 : ∀ j, j < np → w.cell? ⟨b2, j * 2 + 1, none⟩ = some (.int .i64 (pe j))) :
    Calls Yba.prog 13 #[.slice a1 np c1, .slice a2 np c2] w fun e w' => e = .returned (.bool true) ∧ ∃ q, w' = w.drewN q := by
  have hmo : Yba.prog.follows .mixedOrders = true := by kernel_rfl
  have H1 := hideIt h1
  have H2 := hideIt h2
  have S1 := hideIt s1
  have E1 := hideIt e1
  have S2 := hideIt s2
  have E2 := hideIt e2
  clear h1 h2 s1 e1 s2 e2
  go_enter Yba.func13, Yba.ntmps13
  go_wp2
  go_loopw [13] (fun i wr => ∃ q nn : Nat, q ≤ np ∧ i = .int .i64 q ∧ Hid (wr = w.drewN nn)) (fun i _ => np - (intOf i).toNat)
  case atStart => exact ⟨0, 0, Nat.zero_le _, rfl, rfl⟩
  case round =>
    obtain ⟨q, nn, hq, rfl, HW⟩ := hrel
    by_cases hlt : q < np
    · have hki : (q : Int) < (np : Int) := by omega
      have hki0 : (0 : Int) ≤ (q : Int) := by omega
      have ha := H1.out (by omega)
      have ha2 := H2.out (by omega)
      subst ha ha2
      have k : ∀ {p : Addr} {v : Value}, w.cell? p = some v → wr.cell? p = some v := fun h => by rw [HW.out]; exact h
      have f0 := k (S1.out q hlt)
      have f1 := k (E1.out q hlt)
      have f2 := k (S2.out q hlt)
      have f3 := k (E2.out q hlt)
      clear k
      go_wp2
      go_quiet (fail)
      go_wp2
      exact ⟨⟨q + 1, nn + nq, by omega, by go_num, by show _ = _; rw [HW.out, World.drewN_drewN]⟩, by simp [intOf]; omega⟩
    · obtain rfl : q = np := by omega
      go_wp2
      go_ret
      exact ⟨rfl, nn, HW.out⟩
end Go.Proofs.Ybulkdsao
