/-
  symMergeCmpFunc (47): one item behind.
-/
import Derived.Test.YbulkdsaoMerge
namespace Go.Proofs.Ybulkdsao
open Go.ChangeShapes Go.WideShapes Go.ChangeAt Go.RowKit Go.Sort
set_option linter.unusedVariables false

set_option maxRecDepth 100000 in
set_option maxHeartbeats 4000000 in
theorem merge_last (O : It → It → Prop) (hO : ∀ x y z, O x y → O y z → O x z) (IB n cap a m : Nat) (d : Nat → It) (w : World) (hR : Row w IB n d) (h2 : a + 1 < m) (h3 : m + 1 ≤ n) (hn : n ≤ 1000000000000) (hs : Srt O d a m) (hc : Crs O d a m (m + 1)) :
    Calls Yba.prog 47 #[.slice (some ⟨IB, 0, none⟩) n cap, .int .i64 a, .int .i64 m, .int .i64 ((m + 1 : Nat) : Int), .func (.func 12) #[] #[]] w (MergePost O IB n a (m + 1) d w) := by
  have mixed : Yba.prog.follows .mixedOrders = true := by kernel_rfl
  have HR := hideIt hR
  have HS := hideIt hs
  have HC := hideIt hc
  have HO := hideIt hO
  clear hR hs hc hO
  have w0 : ¬ ((m : Int) - a = 1) := by omega
  have w1 : IntKind.i64.wrap (((m + 1 : Nat) : Int) - m) = 1 := by rw [wrap_small] <;> omega
  obtain ⟨b, hb⟩ : ∃ b, b = m + 1 := ⟨_, rfl⟩
  rw [← hb] at w1 ⊢
  have HM := hideIt hb
  clear hb
  go_enter Yba.func47, Yba.ntmps47
  go_wp2
  clear w1
  go_loopw [14, 15] (fun vi vj wr => ∃ i j : Nat, a ≤ i ∧ i ≤ j ∧ j ≤ m ∧ vi = .int .i64 i ∧ vj = .int .i64 j ∧ w.grownBy wr (some IB) ∧ Row wr IB n d ∧ (∀ p, a ≤ p → p < i → ¬ cf (d m) (d p) < 0) ∧ (∀ p, j ≤ p → p < m → cf (d m) (d p) < 0)) (fun vi vj _ => (intOf vj).toNat - (intOf vi).toNat)
  case atStart => exact ⟨a, m, Nat.le_refl _, by omega, Nat.le_refl _, rfl, rfl, grownBy_refl _ _, HR.out, fun p h1 h2 => by omega, fun p h1 h2 => by omega⟩
  case round =>
    obtain ⟨i, j, hai, hij, hjm, rfl, rfl, hg, hrow, hlo, hhi⟩ := hrel
    have HG := hideIt hg
    have HROW := hideIt hrow
    have HLO := hideIt hlo
    have HHI := hideIt hhi
    clear hg hrow hlo hhi HR
    by_cases hlt : i < j
    · have hltz : (i : Int) < (j : Int) := by omega
      obtain ⟨h, eh⟩ : ∃ h : Nat, ((i : Int) + j) / 2 = (h : Int) := ⟨(i + j) / 2, by omega⟩
      have hih : i ≤ h := by omega
      have hhj : h < j := by omega
      have b1 : (h : Int) < (n : Int) := by omega
      have b2 : (m : Int) < (n : Int) := by omega
      have IH := HROW.out.at h (by omega)
      have IA := HROW.out.at m (by omega)
      obtain ⟨j0, j1, j2, j3⟩ := IH
      obtain ⟨p0, p1, p2, p3⟩ := IA
      have CC := hideIt (cmp_grown (d m) (d h) wr)
      have MON : Hid (∀ p q, a ≤ p → p ≤ q → q < m → (d q).need ≤ (d p).need) := fun p q h1 h2 h3 => HS.out.need h1 h2 h3
      generalize hxh : d h = xh at *
      generalize hxa : d m = xa at *
      have HXH := hideIt hxh
      have HXA := hideIt hxa
      clear hxh hxa
      cases hc : decide (cf xa xh < 0) with
      | false =>
        have HCF := hideIt (of_decide_eq_false hc)
        go_wp2_with fail
        refine wp_region_quiet_grown mixed (by kernel_rfl) ?_
        repeat (go_big_quiet_step (first | (go_at_call 12; refine Calls.grown_of (CC.out _ _))))
        refine wpQuiet_nil ?_
        intro _ hw'
        obtain ⟨⟨nq, osq⟩, hw''⟩ := hw'
        subst hw''
        clear j0 j1 j2 j3 p0 p1 p2 p3 CC hc
        go_wp2
        refine ⟨⟨h + 1, by omega, j, by omega, hjm, by simp, rfl, grownBy_grow HG.out nq osq, HROW.out.grow nq osq, fun p q1 q2 => ?_, ?_⟩, by simp [intOf]; omega⟩
        · have e1 : ¬ xh.need < xa.need := fun h => by have := cf_neg.2 h; have := HCF.out; omega
          have e2 := MON.out p h q1 (by omega) (by omega)
          rw [HXH.out] at e2
          have e3 : ¬ cf xa (d p) < 0 := fun h => by have := cf_neg.1 h; omega
          omega
        · exact fun p q1 q2 => by have := HHI.out p q1 q2; omega
      | true =>
        have HCF := hideIt (of_decide_eq_true hc)
        go_wp2_with fail
        refine wp_region_quiet_grown mixed (by kernel_rfl) ?_
        repeat (go_big_quiet_step (first | (go_at_call 12; refine Calls.grown_of (CC.out _ _))))
        refine wpQuiet_nil ?_
        intro _ hw'
        obtain ⟨⟨nq, osq⟩, hw''⟩ := hw'
        subst hw''
        clear j0 j1 j2 j3 p0 p1 p2 p3 CC hc
        go_wp2
        refine ⟨⟨i, hai, h, hih, by omega, rfl, rfl, grownBy_grow HG.out nq osq, HROW.out.grow nq osq, ?_, fun p q1 q2 => ?_⟩, by simp [intOf]; omega⟩
        · exact fun p q1 q2 => by have := HLO.out p q1 q2; omega
        · rw [cf_neg]
          have e1 := cf_neg.1 HCF.out
          have e2 := MON.out h p (by omega) q1 q2
          rw [HXH.out] at e2
          omega
    · have hji : i = j := by omega
      subst hji
      have FIN : Hid (Same a b d (fun p => d (insI m i p)) ∧ Srt O (fun p => d (insI m i p)) a b) := by
        have hb := HM.out
        subst hb
        exact ⟨ins_same d hai hjm, ins_srt HO.out hai hjm HS.out (fun p q1 q2 => T.of_neg (HHI.out p q1 q2)) (fun q => T.of_not (HLO.out (i - 1) (by omega) (by omega)) (HC.out (i - 1) m (by omega) (by omega) (Nat.le_refl _) (by omega)))⟩
      obtain ⟨wo, rfl⟩ : ∃ wo : World, wo = wr := ⟨_, rfl⟩
      go_wp2
      go_loopw [17] (fun vk wk => ∃ k : Nat, i ≤ k ∧ k ≤ m ∧ vk = .int .i64 k ∧ w.grownBy wk (some IB) ∧ Row wk IB n (fun p => d (insI m k p))) (fun vk _ => (intOf vk).toNat)
      case atStart => exact ⟨m, hjm, Nat.le_refl _, rfl, HG.out, by simp only [ins_start]; exact HROW.out⟩
      case round =>
        obtain ⟨k, hik, hkm, rfl, hg2, hrow2⟩ := hrel
        have HG2 := hideIt hg2
        have HROW2 := hideIt hrow2
        clear hg2 hrow2 HG HROW
        by_cases hlt2 : i < k
        · obtain ⟨kp, rfl⟩ : ∃ kp, k = kp + 1 := ⟨k - 1, by omega⟩
          have hltz : (i : Int) < (kp : Int) + 1 := by omega
          have wk : IntKind.i64.wrap ((kp : Int) + 1 - 1) = (kp : Int) := by rw [wrap_small] <;> omega
          have b1 : (kp : Int) + 1 < (n : Int) := by omega
          have b2 : (kp : Int) < (n : Int) := by omega
          have b3 : (0 : Int) ≤ (kp : Int) + 1 := by omega
          have a0 := HROW2.out.c0 (kp + 1) (by omega)
          have a1 := HROW2.out.c1 (kp + 1) (by omega)
          have a2 := HROW2.out.c2 (kp + 1) (by omega)
          have a3 := HROW2.out.c3 (kp + 1) (by omega)
          have c0 := HROW2.out.c0 kp (by omega)
          have c1 := HROW2.out.c1 kp (by omega)
          have c2 := HROW2.out.c2 kp (by omega)
          have c3 := HROW2.out.c3 kp (by omega)
          have fr := HROW2.out.frozen
          have S2 := HROW2.out.swap (i := kp + 1) (j := kp) (by omega) (by omega)
          have STEP := ins_step d m (kp + 1) (by omega) hkm
          rw [show kp + 1 - 1 = kp by omega] at STEP
          rw [STEP] at S2
          simp only [ins_at, ins_below m (show kp < kp + 1 by omega)] at a0 a1 a2 a3 c0 c1 c2 c3 S2
          clear STEP
          generalize d kp = xk at *
          generalize d m = xa at *
          obtain ⟨wz, hwz⟩ : ∃ wz, (putIt (putIt wr IB (kp + 1) xk) IB kp xa).drew = wz := ⟨_, rfl⟩
          have hgz : w.grownBy wz (some IB) := by rw [← hwz]; exact swap_grownBy HG2.out _ _ _ _
          rw [hwz] at S2
          simp only [putIt] at hwz
          have HWZ := hideIt hwz
          have HS2 := hideIt S2
          have HGZ := hideIt hgz
          clear hwz S2 hgz
          go_wp2_with fail
          go_big_region_o
          rw [HWZ.out]
          clear a0 a1 a2 a3 c0 c1 c2 c3 fr HWZ
          go_wp2
          exact ⟨⟨kp, by omega, by omega, by first | rfl | go_num, HGZ.out, HS2.out⟩, by simp [intOf]⟩
        · have hkt2 : k = i := by omega
          subst hkt2
          go_wp2
          first | go_end0 | refine bodyPost_ret (results_none rfl _ _ _) rfl ?_
          exact ⟨rfl, HG2.out, _, HROW2.out, FIN.out.1, FIN.out.2⟩
end Go.Proofs.Ybulkdsao
