/-
  The law, called.
-/
import Derived.Test.YbulkdsaoFront
namespace Go.Proofs.Ybulkdsao
open Go.ChangeShapes Go.WideShapes Go.ChangeAt Go.RowKit
set_option linter.unusedVariables false

theorem body3 : Yba.f3.body = some (rest 0) := by kernel_rfl

set_option maxRecDepth 100000 in
theorem law_any (w : World) (size seg ahead stp : Int) (n m cap0 cap4 : Nat) (a0 a4 : Option Addr) (c p bk gn : Nat → Int)
    (r0 : 0 ≤ size ∧ size ≤ 255) (r1 : 0 ≤ seg ∧ seg ≤ 255) (r2 : 0 ≤ ahead ∧ ahead ≤ 255) (r5 : 0 ≤ stp ∧ stp ≤ 255) (hnb : n ≤ maxLen) (hmb : m ≤ maxLen) (hc : Cin w a0 n c) (hv : Vin0 w a4 m p bk gn) :
    Calls Yba.prog 3 #[.int .u8 size, .int .u8 seg, .int .u8 ahead, .slice a0 n cap0, .slice a4 m cap4, .int .u8 stp] w fun e W => e = .returned (.bool true) ∧ W.os = w.os ∧ W.output = w.output ∧ w.heap.size ≤ W.heap.size ∧ ∀ k, k < w.heap.size → W.heap[k]? = w.heap[k]? := by
  refine (callsIn_wide (n := 5)).1 (callsIn_of_wp_marks (c := rest 0) Yba.func3 body3 trivial ?_)
  refine wpIn_wide.2 ?_
  refine front _ _ w ⟨.int .u8 size, .int .u8 seg, .int .u8 ahead, .slice a0 n cap0, .slice a4 m cap4, .int .u8 stp, undef, undef, undef, undef, undef, undef, undef, undef, undef, undef, undef, undef, undef, undef, undef, undef, undef, undef⟩ size seg ahead stp n m cap0 cap4 a0 a4 c p bk gn ⟨by kernel_rfl, by kernel_rfl, by kernel_rfl, by kernel_rfl, by kernel_rfl, by kernel_rfl, by kernel_rfl, by kernel_rfl, by kernel_rfl, by kernel_rfl, by kernel_rfl, by kernel_rfl, by kernel_rfl, by kernel_rfl, by kernel_rfl, by kernel_rfl, by kernel_rfl, by kernel_rfl, by kernel_rfl, by kernel_rfl, by kernel_rfl, by kernel_rfl, by kernel_rfl, by kernel_rfl, by kernel_rfl⟩ rfl rfl rfl rfl rfl rfl r0 r1 r2 r5 hnb hmb hc hv ?_ ?_
  · intro t' hs h12
    exact ⟨_, results_tmp rfl _ _ _, by simp [Array.getD_eq_getD_getElem?, h12], rfl, rfl, Nat.le_refl _, fun _ _ => rfl⟩
  · intro t' W b hs h12 hd hb hio hsz hk
    refine ⟨by simp, .inl ⟨_, _, rfl, run_takeDeferred hd, ?_⟩⟩
    refine ⟨_, results_tmp rfl _ _ _, by simp [Array.getD_eq_getD_getElem?, h12], hio.1, hio.2, ?_, fun k hk' => ?_⟩
    · rw [World.putObj_size]; exact hsz
    · rw [World.putObj_heap_other (by omega)]; exact hk k hk'
end Go.Proofs.Ybulkdsao
