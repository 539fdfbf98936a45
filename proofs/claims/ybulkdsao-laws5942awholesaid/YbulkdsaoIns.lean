/-
  insertionSortCmpFunc (46).
-/
import Derived.Test.YbulkdsaoOrd
namespace Go.Proofs.Ybulkdsao
open Go.ChangeShapes Go.WideShapes Go.ChangeAt Go.RowKit Go.Sort
set_option linter.unusedVariables false

/-- The comparison, in every world behind. -/
theorem cmp_grown (x y : It) (W : World) (n : Nat) (os : Array Obj) : Calls Yba.prog 12 #[.agg #[.int .i64 x.a, .int .i64 x.e, .int .i64 x.need, .int .i64 x.vi], .agg #[.int .i64 y.a, .int .i64 y.e, .int .i64 y.need, .int .i64 y.vi]] (grow (W.drewN n) os)
    fun e w' => e = .returned (.int .i64 (cf x y)) ∧ ∃ q os', w' = grow ((grow (W.drewN n) os).drewN q) os' := cmp_any x y _

/-- An item's cells, in every world behind. -/
structure ItAt (W : World) (IB i : Nat) (x : It) : Prop where
  c0 : ∀ n os, (grow (W.drewN n) os).cell? ⟨IB, i * 4, none⟩ = some (.int .i64 x.a)
  c1 : ∀ n os, (grow (W.drewN n) os).cell? ⟨IB, i * 4 + 1, none⟩ = some (.int .i64 x.e)
  c2 : ∀ n os, (grow (W.drewN n) os).cell? ⟨IB, i * 4 + 2, none⟩ = some (.int .i64 x.need)
  c3 : ∀ n os, (grow (W.drewN n) os).cell? ⟨IB, i * 4 + 3, none⟩ = some (.int .i64 x.vi)
theorem Row.at {W : World} {IB n : Nat} {d : Nat → It} (h : Row W IB n d) (i : Nat) (hi : i < n) : ItAt W IB i (d i) :=
  ⟨fun q os => (h.grow q os).c0 i hi, fun q os => (h.grow q os).c1 i hi, fun q os => (h.grow q os).c2 i hi, fun q os => (h.grow q os).c3 i hi⟩

set_option maxRecDepth 100000 in
set_option maxHeartbeats 2000000 in
theorem insertion_any (O : It → It → Prop) (hO : ∀ x y z, O x y → O y z → O x z) (IB n cap a b : Nat) (d : Nat → It) (w : World) (hR : Row w IB n d) (h1 : a ≤ b) (h2 : b ≤ n) (hn : n ≤ 4611686018427387904) (hord : ∀ i j, a ≤ i → i < j → j < b → O (d i) (d j)) :
    Calls Yba.prog 46 #[.slice (some ⟨IB, 0, none⟩) n cap, .int .i64 a, .int .i64 b, .func (.func 12) #[] #[]] w
      fun e w' => e = .returned (.tuple #[]) ∧ w.grownBy w' (some IB) ∧ ∃ d', Row w' IB n d' ∧ Same a b d d' ∧ Srt O d' a b := by
  have mixed : Yba.prog.follows .mixedOrders = true := by kernel_rfl
  have HR := hideIt hR
  have HORD := hideIt hord
  have HO := hideIt hO
  clear hR hord hO
  go_enter Yba.func46, Yba.ntmps46
  go_wp2
  go_loopw [8] (fun vi wr => ∃ (i : Nat) (dk : Nat → It), a < i ∧ (i ≤ b ∨ i = a + 1) ∧ vi = .int .i64 i ∧ w.grownBy wr (some IB) ∧ Row wr IB n dk ∧ Same a (min i b) d dk ∧ Srt O dk a (min i b)) (fun vi _ => b - (intOf vi).toNat)
  case atStart => exact ⟨a + 1, d, by omega, .inr rfl, by go_num, grownBy_refl _ _, HR.out, Same.refl _ _ _, fun p q hp hq hr => by omega⟩
  case round =>
    obtain ⟨i, dk, hai, hib, rfl, hg, hrow, hsame, hsrt⟩ := hrel
    have HG := hideIt hg
    have HROW := hideIt hrow
    have HSAME := hideIt hsame
    have HSRT := hideIt hsrt
    clear hg hrow hsame hsrt HR
    by_cases hlt : i < b
    · have hltz : (i : Int) < (b : Int) := by omega
      go_wp2
      clear hltz
      obtain ⟨wo, rfl⟩ : ∃ wo : World, wo = wr := ⟨_, rfl⟩
      go_loopw [9] (fun vj wj => ∃ j : Nat, a ≤ j ∧ j ≤ i ∧ vj = .int .i64 j ∧ w.grownBy wj (some IB) ∧ Row wj IB n (fun p => dk (insI i j p)) ∧ ∀ p, j ≤ p → p < i → T O (dk i) (dk p)) (fun vj _ => (intOf vj).toNat)
      case atStart => exact ⟨i, by omega, Nat.le_refl _, rfl, HG.out, by simp only [ins_start]; exact HROW.out, fun p hp hq => by omega⟩
      case round =>
        obtain ⟨j, haj, hji, rfl, hg2, hrow2, hhi⟩ := hrel
        have HG2 := hideIt hg2
        have HROW2 := hideIt hrow2
        have HHI := hideIt hhi
        clear hg2 hrow2 hhi HG HROW
        have EX : Hid ((a < j → T O (dk (j - 1)) (dk i)) → Same a (min (i + 1) b) d (fun p => dk (insI i j p)) ∧ Srt O (fun p => dk (insI i j p)) a (min (i + 1) b)) := fun hlo => by
          have e1 : min i b = i := by omega
          have e2 : min (i + 1) b = i + 1 := by omega
          have s1 := HSAME.out
          have s2 := HSRT.out
          rw [e1] at s1 s2
          rw [e2]
          exact ⟨(s1.wide (Nat.le_refl _) (by omega)).trans (ins_same dk haj hji), ins_srt HO.out haj hji s2 HHI.out hlo⟩
        by_cases hja : a < j
        · obtain ⟨jp, rfl⟩ : ∃ jp, j = jp + 1 := ⟨j - 1, by omega⟩
          have LO : Hid (¬ cf (dk i) (dk jp) < 0 → T O (dk (jp + 1 - 1)) (dk i)) := fun hc => by
            refine T.of_not hc ?_
            have s1 := HSAME.out
            rw [show min i b = i by omega] at s1
            obtain ⟨l, l1, l2, l3⟩ := s1.fwd (jp + 1 - 1) (by omega) (by omega)
            rw [l3, s1.out i (by omega)]
            exact HORD.out l i l1 l2 hlt
          have hg : ((a : Int) < (jp : Int) + 1) := by omega
          have wp : IntKind.i64.wrap ((jp : Int) + 1 - 1) = (jp : Int) := by rw [wrap_small] <;> omega
          have b1 : (jp : Int) + 1 < (n : Int) := by omega
          have b2 : (jp : Int) < (n : Int) := by omega
          have b3 : (0 : Int) ≤ (jp : Int) + 1 := by omega
          have IJ := HROW2.out.at (jp + 1) (by omega)
          have IP := HROW2.out.at jp (by omega)
          rw [ins_at] at IJ
          rw [ins_below i (show jp < jp + 1 by omega)] at IP
          obtain ⟨j0, j1, j2, j3⟩ := IJ
          obtain ⟨p0, p1, p2, p3⟩ := IP
          have CC := hideIt (cmp_grown (dk i) (dk jp) wr)
          generalize hxi : dk i = xi at *
          generalize hxp : dk jp = xp at *
          have HXI := hideIt hxi
          have HXP := hideIt hxp
          clear hxi hxp
          cases hc : decide (cf xi xp < 0) with
          | true =>
            go_wp2_with fail
            refine wp_region_quiet_grown mixed (by kernel_rfl) ?_
            repeat (go_big_quiet_step (first | (go_at_call 12; refine Calls.grown_of (CC.out _ _))))
            refine wpQuiet_nil ?_
            intro _ hw'
            obtain ⟨⟨nq, osq⟩, hw''⟩ := hw'
            subst hw''
            go_wp2_with fail
            obtain ⟨w4, hw4⟩ : ∃ w4, grow (wr.drewN nq) osq = w4 := ⟨_, rfl⟩
            have hrow4 : Row w4 IB n (fun p => dk (insI i (jp + 1) p)) := by rw [← hw4]; exact HROW2.out.grow nq osq
            have hg4 : w.grownBy w4 (some IB) := by rw [← hw4]; exact grownBy_grow HG2.out nq osq
            clear j0 j1 j2 j3 p0 p1 p2 p3 CC
            rw [hw4]
            have a0 := hrow4.c0 (jp + 1) (by omega)
            have a1 := hrow4.c1 (jp + 1) (by omega)
            have a2 := hrow4.c2 (jp + 1) (by omega)
            have a3 := hrow4.c3 (jp + 1) (by omega)
            have c0 := hrow4.c0 jp (by omega)
            have c1 := hrow4.c1 jp (by omega)
            have c2 := hrow4.c2 jp (by omega)
            have c3 := hrow4.c3 jp (by omega)
            have fr := hrow4.frozen
            have S2 := hrow4.swap (i := jp + 1) (j := jp) (by omega) (by omega)
            have STEP := ins_step dk i (jp + 1) (by omega) hji
            rw [show jp + 1 - 1 = jp by omega] at STEP
            rw [STEP] at S2
            simp only [ins_at, ins_below i (show jp < jp + 1 by omega), HXI.out, HXP.out] at a0 a1 a2 a3 c0 c1 c2 c3 S2
            have HS2 := hideIt S2
            have HG4 := hideIt hg4
            clear S2 STEP hg4 hrow4 hw4
            obtain ⟨wz, hwz⟩ : ∃ wz, (putIt (putIt w4 IB (jp + 1) xp) IB jp xi).drew = wz := ⟨_, rfl⟩
            have hgz : w.grownBy wz (some IB) := by rw [← hwz]; exact swap_grownBy HG4.out _ _ _ _
            rw [hwz] at HS2
            simp only [putIt] at hwz
            have HWZ := hideIt hwz
            clear hwz
            go_big_region_o
            rw [HWZ.out]
            have HGZ := hideIt hgz
            have HC := hideIt (of_decide_eq_true hc)
            clear hgz a0 a1 a2 a3 c0 c1 c2 c3 fr HWZ hc
            go_wp2
            refine ⟨⟨jp, by omega, by omega, by first | rfl | go_num, HGZ.out, HS2.out, fun p hp hq => ?_⟩, by simp [intOf]⟩
            by_cases e : p = jp
            · rw [e, HXP.out]; exact T.of_neg HC.out
            · exact HHI.out p (by omega) hq
          | false =>
            have hlo := LO.out (of_decide_eq_false hc)
            have HE2 := hideIt (EX.out fun _ => hlo)
            clear hlo
            go_wp2_with fail
            refine wp_region_quiet_grown mixed (by kernel_rfl) ?_
            repeat (go_big_quiet_step (first | (go_at_call 12; refine Calls.grown_of (CC.out _ _))))
            refine wpQuiet_nil ?_
            intro _ hw'
            obtain ⟨⟨nq, osq⟩, hw''⟩ := hw'
            subst hw''
            clear j0 j1 j2 j3 p0 p1 p2 p3 CC hc
            go_wp2
            refine ⟨⟨i + 1, _, by omega, .inl (by omega), by go_num, grownBy_grow HG2.out nq osq, HROW2.out.grow nq osq, HE2.out.1, HE2.out.2⟩, by simp [intOf]; omega⟩
        · have hje : j = a := by omega
          have HE2 := hideIt (EX.out fun h => absurd h hja)
          have hg : decide ((a : Int) < (j : Int)) = false := decide_eq_false (by omega)
          have hg' : ¬ ((a : Int) < (j : Int)) := by omega
          go_wp2_with fail
          refine wp_region_quiet_grown mixed (by kernel_rfl) ?_
          repeat (go_big_quiet_step (fail))
          refine wpQuiet_nil ?_
          intro _ hw'
          obtain ⟨⟨nq, osq⟩, hw''⟩ := hw'
          subst hw''
          go_wp2
          refine ⟨⟨i + 1, _, by omega, .inl (by omega), by go_num, grownBy_grow HG2.out nq osq, HROW2.out.grow nq osq, HE2.out.1, HE2.out.2⟩, by simp [intOf]; omega⟩
    · go_wp2
      go_end0
      have e : min i b = b := by omega
      have s1 := HSAME.out
      have s2 := HSRT.out
      rw [e] at s1 s2
      exact ⟨rfl, HG.out, dk, HROW.out, s1, s2⟩
end Go.Proofs.Ybulkdsao
