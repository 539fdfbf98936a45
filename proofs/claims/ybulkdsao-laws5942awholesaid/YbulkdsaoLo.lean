/-
  The first statements.
-/
import Derived.Test.YbulkdsaoLd
namespace Go.Proofs.Ybulkdsao
open Go.ChangeShapes Go.WideShapes Go.ChangeAt Go.RowKit
set_option linter.unusedVariables false

set_option maxRecDepth 100000 in
set_option maxHeartbeats 1000000 in
theorem st0 (Q : Exit → Act → World → Prop) (t : Array Value) (ds : List Deferred) (w : World) (x : Fx) (size seg ahead : Int) (n m cap0 cap4 : Nat) (a0 a4 : Option Addr) (hA : At t x)
    (h0 : x.s0 = .int .u8 size) (h1 : x.s1 = .int .u8 seg) (h2 : x.s2 = .int .u8 ahead) (h3 : x.s3 = .slice a0 n cap0) (h4 : x.s4 = .slice a4 m cap4)
    (r0 : 0 ≤ size ∧ size ≤ 255) (r1 : 0 ≤ seg ∧ seg ≤ 255) (r2 : 0 ≤ ahead ∧ ahead ≤ 255) (hnb : n ≤ maxLen) (hmb : m ≤ maxLen)
    (hR : ∀ t', t'.size = 497 → t'[12]? = some (.bool true) → Q .ret ⟨t', ds⟩ w)
    (hQ : n ≤ 4096 → m ≤ 256 → ∀ t' v w', At t' { x with s13 := .int .i64 (size + 1), s14 := .int .i64 (seg % 16 + 1), s15 := .int .i64 ahead, s16 := .int .i64 ((size + 1 + (seg % 16 + 1) - 1) / (seg % 16 + 1)), s17 := v } →
      Below w.heap.size w w' → w'.ownsRow w.heap.size 2 1 v 0 [] → v ≠ .slice none 0 0 → Code.wp Yba.prog (rest 7) Q ⟨t', ds⟩ w') :
    Code.wp Yba.prog (rest 0) Q ⟨t, ds⟩ w := by
  obtain ⟨s0, s1, s2, s3, s4, s5, s13, s14, s15, s16, s17, s20, s22, s23, s24, s25, s26, s33, s34, s35, s36, s37, s39, s49⟩ := x
  obtain ⟨g, hg, rfl⟩ := hA.lit
  dsimp only at hg h0 h1 h2 h3 h4
  subst h0 h1 h2 h3 h4
  refine rest_step 0 (by kernel_rfl) ?_
  conv => arg 2; whnf
  simp only [slotsFrom, Nat.reduceAdd, hg]
  clear hA hg
  have HQ := hideIt hQ
  have HR := hideIt hR
  clear hQ hR
  unfold maxLen at hnb hmb
  have m0 : 0 ≤ seg % 16 ∧ seg % 16 ≤ 15 := by omega
  obtain ⟨sm, hsm⟩ : ∃ sm, seg % 16 = sm := ⟨_, rfl⟩
  rw [hsm] at HQ m0
  go_wp2
  refine rest_step 1 (by kernel_rfl) ?_
  conv => arg 2; whnf
  by_cases c : n ≤ 4096
  · by_cases c' : m ≤ 256
    · have z1 : ¬ ((4096 : Int) < (n : Int)) := by omega
      have z2 : ¬ ((256 : Int) < (m : Int)) := by omega
      go_wp2
      refine rest_step 2 (by kernel_rfl) ?_
      conv => arg 2; whnf
      go_wp2
      refine rest_step 3 (by kernel_rfl) ?_
      conv => arg 2; whnf
      go_wp2
      refine rest_step 4 (by kernel_rfl) ?_
      conv => arg 2; whnf
      go_wp2
      refine rest_step 5 (by kernel_rfl) ?_
      conv => arg 2; whnf
      have hne : ¬ (sm + 1 = 0) := by omega
      have hnn : 0 ≤ size + 1 + (sm + 1) - 1 := by omega
      have hd0 := Int.ediv_nonneg hnn (show 0 ≤ sm + 1 by omega)
      have hd1 := Int.ediv_le_self (sm + 1) hnn
      go_wp2
      refine rest_step 6 (by kernel_rfl) ?_
      conv => arg 2; whnf
      obtain ⟨ia, hia, hz0a, hz1a, hz2a⟩ := info_parts Yba.info2
      go_wp2_with (first
        | (at_make; refine wpList_make_own _ rfl _ _ 24 rfl w.heap.size 2 ia (.int .i64 0) 1 Yba.underlying24 hia hz0a hz1a .i64 .i64 _ n rfl rfl rfl (by rw [hz2a]; omega) (by unfold maxLen; omega) (Nat.le_refl _) ?_
           intro w1 own1 grow1
           have O1 := hideIt own1
           have G1 := hideIt grow1
           clear own1 grow1))
      exact HQ.out c c' _ _ w1 ⟨rfl, rfl, rfl, rfl, rfl, rfl, rfl, rfl, rfl, rfl, rfl, rfl, rfl, rfl, rfl, rfl, rfl, rfl, rfl, rfl, rfl, rfl, rfl, rfl, rfl⟩ ((Below.refl _ _).grown G1.out (Nat.le_refl _) (fun k hk => by cases hk)) O1.out (by simp)
    · have z1 : ¬ ((4096 : Int) < (n : Int)) := by omega
      have z2 : (256 : Int) < (m : Int) := by omega
      go_wp2
      exact HR.out _ rfl rfl
  · have z1 : (4096 : Int) < (n : Int) := by omega
    go_wp2
    exact HR.out _ rfl rfl
end Go.Proofs.Ybulkdsao
