/-
  symMergeCmpFunc (47).
-/
import Derived.Test.YbulkdsaoSym
namespace Go.Proofs.Ybulkdsao
open Go.ChangeShapes Go.WideShapes Go.ChangeAt Go.RowKit Go.Sort
set_option linter.unusedVariables false

/-- The post of a merge. -/
def MergePost (O : It → It → Prop) (IB n a b : Nat) (d : Nat → It) (w : World) : Ending → World → Prop := fun e w' =>
  e = .returned (.tuple #[]) ∧ w.grownBy w' (some IB) ∧ ∃ d', Row w' IB n d' ∧ Same a b d d' ∧ Srt O d' a b

set_option maxRecDepth 100000 in
set_option maxHeartbeats 4000000 in
theorem merge_one (O : It → It → Prop) (hO : ∀ x y z, O x y → O y z → O x z) (IB n cap a b : Nat) (d : Nat → It) (w : World) (hR : Row w IB n d) (h2 : a + 1 < b) (h3 : b ≤ n) (hn : n ≤ 1000000000000) (hs : Srt O d (a + 1) b) (hc : Crs O d a (a + 1) b) :
    Calls Yba.prog 47 #[.slice (some ⟨IB, 0, none⟩) n cap, .int .i64 a, .int .i64 ((a + 1 : Nat) : Int), .int .i64 b, .func (.func 12) #[] #[]] w (MergePost O IB n a b d w) := by
  have mixed : Yba.prog.follows .mixedOrders = true := by kernel_rfl
  have HR := hideIt hR
  have HS := hideIt hs
  have HC := hideIt hc
  have HO := hideIt hO
  clear hR hs hc hO
  have w1 : IntKind.i64.wrap (((a + 1 : Nat) : Int) - a) = 1 := by rw [wrap_small] <;> omega
  obtain ⟨m, hm⟩ : ∃ m, m = a + 1 := ⟨_, rfl⟩
  rw [← hm] at w1 ⊢
  have HM := hideIt hm
  clear hm
  go_enter Yba.func47, Yba.ntmps47
  go_wp2
  clear w1
  have hm := HM.out
  go_loopw [10, 11] (fun vi vj wr => ∃ i j : Nat, m ≤ i ∧ i ≤ j ∧ j ≤ b ∧ vi = .int .i64 i ∧ vj = .int .i64 j ∧ w.grownBy wr (some IB) ∧ Row wr IB n d ∧ (∀ p, m ≤ p → p < i → cf (d p) (d a) < 0) ∧ (∀ p, j ≤ p → p < b → ¬ cf (d p) (d a) < 0)) (fun vi vj _ => (intOf vj).toNat - (intOf vi).toNat)
  case atStart => exact ⟨m, b, Nat.le_refl _, by omega, Nat.le_refl _, rfl, rfl, grownBy_refl _ _, HR.out, fun p h1 h2 => by omega, fun p h1 h2 => by omega⟩
  case round =>
    obtain ⟨i, j, hmi, hij, hjb, rfl, rfl, hg, hrow, hlo, hhi⟩ := hrel
    have HG := hideIt hg
    have HROW := hideIt hrow
    have HLO := hideIt hlo
    have HHI := hideIt hhi
    clear hg hrow hlo hhi HR hm
    by_cases hlt : i < j
    · have hltz : (i : Int) < (j : Int) := by omega
      obtain ⟨h, eh⟩ : ∃ h : Nat, ((i : Int) + j) / 2 = (h : Int) := ⟨(i + j) / 2, by omega⟩
      have hih : i ≤ h := by omega
      have hhj : h < j := by omega
      have b1 : (h : Int) < (n : Int) := by omega
      have b2 : (a : Int) < (n : Int) := by have := HM.out; omega
      have IH := HROW.out.at h (by omega)
      have IA := HROW.out.at a (by have := HM.out; omega)
      obtain ⟨j0, j1, j2, j3⟩ := IH
      obtain ⟨p0, p1, p2, p3⟩ := IA
      have CC := hideIt (cmp_grown (d h) (d a) wr)
      have MON : Hid (∀ p q, m ≤ p → p ≤ q → q < b → (d q).need ≤ (d p).need) := fun p q h1 h2 h3 => HS.out.need (by have := HM.out; omega) h2 h3
      generalize hxh : d h = xh at *
      generalize hxa : d a = xa at *
      have HXH := hideIt hxh
      have HXA := hideIt hxa
      clear hxh hxa
      cases hc : decide (cf xh xa < 0) with
      | true =>
        have HCF := hideIt (of_decide_eq_true hc)
        go_wp2_with fail
        refine wp_region_quiet_grown mixed (by kernel_rfl) ?_
        repeat (go_big_quiet_step (first | (go_at_call 12; refine Calls.grown_of (CC.out _ _))))
        refine wpQuiet_nil ?_
        intro _ hw'
        obtain ⟨⟨nq, osq⟩, hw''⟩ := hw'
        subst hw''
        clear j0 j1 j2 j3 p0 p1 p2 p3 CC hc
        go_wp2
        refine ⟨⟨h + 1, j, by omega, by omega, hjb, by first | rfl | go_num, rfl, grownBy_grow HG.out nq osq, HROW.out.grow nq osq, fun p q1 q2 => ?_, ?_⟩, by simp [intOf]; omega⟩
        · rw [cf_neg]
          have e1 := cf_neg.1 HCF.out
          have e2 := MON.out p h q1 (by omega) (by omega)
          rw [HXH.out] at e2
          omega
        · exact fun p q1 q2 => by have := HHI.out p q1 q2; omega
      | false =>
        have HCF := hideIt (of_decide_eq_false hc)
        go_wp2_with fail
        refine wp_region_quiet_grown mixed (by kernel_rfl) ?_
        repeat (go_big_quiet_step (first | (go_at_call 12; refine Calls.grown_of (CC.out _ _))))
        refine wpQuiet_nil ?_
        intro _ hw'
        obtain ⟨⟨nq, osq⟩, hw''⟩ := hw'
        subst hw''
        clear j0 j1 j2 j3 p0 p1 p2 p3 CC hc
        go_wp2
        refine ⟨⟨i, h, hmi, hih, by omega, rfl, by first | rfl | go_num, grownBy_grow HG.out nq osq, HROW.out.grow nq osq, ?_, fun p q1 q2 => ?_⟩, by simp [intOf]; omega⟩
        · exact HLO.out
        · rw [cf_neg]
          have e1 : ¬ xa.need < xh.need := fun h => by have := cf_neg.2 h; have := HCF.out; omega
          have e2 := MON.out h p (by omega) q1 q2
          rw [HXH.out] at e2
          omega
    · have hji : i = j := by omega
      subst hji
      obtain ⟨t, ht⟩ : ∃ t, i = t + 1 := ⟨i - 1, by have := HM.out; omega⟩
      subst ht
      have wt : IntKind.i64.wrap ((t : Int) + 1 - 1) = (t : Int) := by rw [wrap_small] <;> omega
      have hat : a ≤ t := by have := HM.out; omega
      have FIN : Hid (Same a b d (fun p => d (movI a t p)) ∧ Srt O (fun p => d (movI a t p)) a b) := by
        have hm := HM.out
        by_cases c : t < b
        · refine ⟨mov_same d hat c, mov_srt HO.out hat c HS.out (fun p q1 q2 => T.of_neg (HLO.out p (by omega) (by omega))) (fun p q1 q2 => T.of_not (HHI.out p (by omega) q2) (HC.out a p (Nat.le_refl _) (by omega) (by omega) q2))⟩
        · omega
      obtain ⟨wo, rfl⟩ : ∃ wo : World, wo = wr := ⟨_, rfl⟩
      go_wp2
      go_loopw [13] (fun vk wk => ∃ k : Nat, a ≤ k ∧ k ≤ t ∧ vk = .int .i64 k ∧ w.grownBy wk (some IB) ∧ Row wk IB n (fun p => d (movI a k p))) (fun vk _ => t - (intOf vk).toNat)
      case atStart => exact ⟨a, Nat.le_refl _, hat, rfl, HG.out, by simp only [mov_start]; exact HROW.out⟩
      case round =>
        obtain ⟨k, hak, hkt, rfl, hg2, hrow2⟩ := hrel
        have HG2 := hideIt hg2
        have HROW2 := hideIt hrow2
        clear hg2 hrow2 HG HROW
        by_cases hlt2 : k < t
        · have hltz : (k : Int) < (t : Int) := by omega
          have b1 : (k : Int) + 1 < (n : Int) := by omega
          have b2 : (k : Int) < (n : Int) := by omega
          have b3 : (0 : Int) ≤ (k : Int) + 1 := by omega
          have a0 := HROW2.out.c0 k (by omega)
          have a1 := HROW2.out.c1 k (by omega)
          have a2 := HROW2.out.c2 k (by omega)
          have a3 := HROW2.out.c3 k (by omega)
          have c0 := HROW2.out.c0 (k + 1) (by omega)
          have c1 := HROW2.out.c1 (k + 1) (by omega)
          have c2 := HROW2.out.c2 (k + 1) (by omega)
          have c3 := HROW2.out.c3 (k + 1) (by omega)
          have fr := HROW2.out.frozen
          have S2 := HROW2.out.swap (i := k) (j := k + 1) (by omega) (by omega)
          rw [mov_step d a k hak] at S2
          simp only [mov_at hak, mov_hi hak (show k < k + 1 by omega)] at a0 a1 a2 a3 c0 c1 c2 c3 S2
          generalize d (k + 1) = xk at *
          generalize d a = xa at *
          obtain ⟨wz, hwz⟩ : ∃ wz, (putIt (putIt wr IB k xk) IB (k + 1) xa).drew = wz := ⟨_, rfl⟩
          have hgz : w.grownBy wz (some IB) := by rw [← hwz]; exact swap_grownBy HG2.out _ _ _ _
          rw [hwz] at S2
          simp only [putIt] at hwz
          have HWZ := hideIt hwz
          have HS2 := hideIt S2
          have HGZ := hideIt hgz
          clear hwz S2 hgz
          go_wp2_with fail
          go_big_region_o
          rw [HWZ.out]
          clear a0 a1 a2 a3 c0 c1 c2 c3 fr HWZ
          go_wp2
          exact ⟨⟨k + 1, by omega, by omega, by first | rfl | go_num, HGZ.out, HS2.out⟩, by simp [intOf]; omega⟩
        · have hkt2 : k = t := by omega
          subst hkt2
          go_wp2
          first | go_end0 | refine bodyPost_ret (results_none rfl _ _ _) rfl ?_
          exact ⟨rfl, HG2.out, _, HROW2.out, FIN.out.1, FIN.out.2⟩
end Go.Proofs.Ybulkdsao
