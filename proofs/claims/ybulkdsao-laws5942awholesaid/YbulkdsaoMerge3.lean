/-
  symMergeCmpFunc (47), whole.
-/
import Derived.Test.YbulkdsaoMerge2
import Derived.Deep.Cut
import Derived.Deep.CutRange
import Derived.Deep.CutBlock
namespace Go.Proofs.Ybulkdsao
open Go.ChangeShapes Go.WideShapes Go.ChangeAt Go.RowKit Go.Sort
set_option linter.unusedVariables false

theorem merge_fin {O : It → It → Prop} {d1 d2 d3 : Nat → It} {a s mid e b : Nat} (SP : Split O d1 a s mid e b) (h12 : Same a mid d1 d2) (s12 : Srt O d2 a mid) (h23 : Same mid b d2 d3) (s23 : Srt O d3 mid b) (ham : a ≤ mid) (hmb : mid ≤ b) : Same a b d1 d3 ∧ Srt O d3 a b :=
  ⟨(h12.wide (Nat.le_refl _) hmb).trans (h23.wide ham (Nat.le_refl _)), srt_join (srt_same s12 h23 (.inl (Nat.le_refl _))) s23 (x_same2 (x_same1 SP.x h12) h23)⟩
theorem left_srt {O : It → It → Prop} {d1 : Nat → It} {a s mid e b : Nat} (SP : Split O d1 a s mid e b) (h0 : a ≤ s) (h1 : s ≤ mid) (h : ¬ (a < s ∧ s < mid)) : Srt O d1 a mid := by
  by_cases c : a < s
  · have : s = mid := by omega
    subst this; exact SP.s1
  · have : s = a := by omega
    subst this; exact SP.s2
theorem right_srt {O : It → It → Prop} {d1 : Nat → It} {a s mid e b : Nat} (SP : Split O d1 a s mid e b) (h0 : mid ≤ e) (h1 : e ≤ b) (h : ¬ (mid < e ∧ e < b)) : Srt O d1 mid b := by
  by_cases c : mid < e
  · have : e = b := by omega
    subst this; exact SP.s3
  · have : e = mid := by omega
    subst this; exact SP.s4
theorem ro_none {d : Nat → It} {s m e : Nat} (h0 : s ≤ m) (h1 : m ≤ e) (h : ¬ (s < m ∧ m < e)) : (fun p => d (roI s m e p)) = d := by
  funext p
  by_cases c : s < m
  · have : e = m := by omega
    subst this; rw [roI_id2]
  · have : s = m := by omega
    subst this; rw [roI_id1]
theorem andDec {p q : Prop} [Decidable p] [Decidable q] (h : ¬ (p ∧ q)) : (p ∧ ¬ q) ∨ ¬ p := by
  by_cases c : p
  · exact .inl ⟨c, fun h' => h ⟨c, h'⟩⟩
  · exact .inr c

set_option maxRecDepth 100000 in
set_option maxHeartbeats 8000000 in
theorem merge_wide (O : It → It → Prop) (hO : ∀ x y z, O x y → O y z → O x z) (IB n cap a m b : Nat) (d : Nat → It) (w : World) (hR : Row w IB n d) (h1 : a + 1 < m) (h2 : m + 1 < b) (h3 : b ≤ n) (hn : n ≤ 1000000000000) (hx : Srt O d a m) (hy : Srt O d m b) (hc : Crs O d a m b)
    (ih : ∀ (a' m' b' : Nat) (d' : Nat → It) (w' : World), b' - a' < b - a → Row w' IB n d' → a' < m' → m' < b' → b' ≤ n → Srt O d' a' m' → Srt O d' m' b' → Crs O d' a' m' b' → Calls Yba.prog 47 #[.slice (some ⟨IB, 0, none⟩) n cap, .int .i64 a', .int .i64 m', .int .i64 b', .func (.func 12) #[] #[]] w' (MergePost O IB n a' b' d' w')) :
    Calls Yba.prog 47 #[.slice (some ⟨IB, 0, none⟩) n cap, .int .i64 a, .int .i64 m, .int .i64 b, .func (.func 12) #[] #[]] w (MergePost O IB n a b d w) := by
  have mixed : Yba.prog.follows .mixedOrders = true := by kernel_rfl
  have HR := hideIt hR
  have HX := hideIt hx
  have HY := hideIt hy
  have HC := hideIt hc
  have HO := hideIt hO
  have IH := hideIt ih
  clear hR hx hy hc hO ih
  have w0 : ¬ ((m : Int) - a = 1) := by omega
  have w1 : ¬ ((b : Int) - m = 1) := by omega
  have w0b : (((m : Int) - a) == 1) = false := by simp; omega
  have w1b : (((b : Int) - m) == 1) = false := by simp; omega
  obtain ⟨mid, emid⟩ : ∃ mid : Nat, ((a : Int) + b) / 2 = (mid : Int) := ⟨(a + b) / 2, by omega⟩
  have hmid : 2 * mid ≤ a + b ∧ a + b ≤ 2 * mid + 1 := by omega
  have wn : IntKind.i64.wrap ((mid : Int) + m) = ((mid + m : Nat) : Int) := by rw [wrap_small] <;> omega
  obtain ⟨nn, hnn⟩ : ∃ nn, mid + m = nn := ⟨_, rfl⟩
  rw [hnn] at wn
  have wp : IntKind.i64.wrap ((nn : Int) - 1) = ((nn - 1 : Nat) : Int) := by rw [wrap_small] <;> omega
  obtain ⟨pp, hpp⟩ : ∃ pp, nn - 1 = pp := ⟨_, rfl⟩
  rw [hpp] at wp
  by_cases hmm : mid < m
  · obtain ⟨s0, hs0⟩ : ∃ s0, s0 = nn - b := ⟨_, rfl⟩
    obtain ⟨r0, hr0⟩ : ∃ r0, r0 = mid := ⟨_, rfl⟩
    have ws : IntKind.i64.wrap ((nn : Int) - b) = (s0 : Int) := by rw [wrap_small] <;> omega
    have hmz : (mid : Int) < (m : Int) := by omega
    have B := hideIt (show a ≤ s0 ∧ s0 ≤ r0 ∧ r0 ≤ m ∧ r0 ≤ mid ∧ nn - s0 ≤ b ∧ (s0 = a ∨ nn - s0 = b) ∧ (r0 = m ∨ nn - r0 = m) by omega)
    have BP : Hid (∀ c, s0 ≤ c → c < r0 → m ≤ pp - c ∧ pp - c < b ∧ c ≤ pp) := fun c c1 c2 => by omega
    have NN := hideIt hnn
    have PP := hideIt hpp
    have SV : Hid (s0 = nn - b ∧ r0 = mid) := ⟨hs0, hr0⟩
    clear hnn hpp hs0 hr0
    go_enter Yba.func47, Yba.ntmps47
    go_wp2
    clear ws
    clear wn wp emid w0 w1 w0b w1b
    go_loopw [20, 21] (fun vi vj wr => ∃ i j : Nat, s0 ≤ i ∧ i ≤ j ∧ j ≤ r0 ∧ vi = .int .i64 i ∧ vj = .int .i64 j ∧ w.grownBy wr (some IB) ∧ Row wr IB n d ∧ (∀ q, s0 ≤ q → q < i → (d (pp - q)).need ≤ (d q).need) ∧ (∀ q, j ≤ q → q < r0 → (d q).need < (d (pp - q)).need)) (fun vi vj _ => (intOf vj).toNat - (intOf vi).toNat)
    case atStart => exact ⟨s0, r0, Nat.le_refl _, B.out.2.1, Nat.le_refl _, by first | rfl | rw [SV.out.1], by first | rfl | rw [SV.out.2], grownBy_refl _ _, HR.out, fun q q1 q2 => by omega, fun q q1 q2 => by omega⟩
    case round =>
      obtain ⟨i, j, hsi, hij, hjr, rfl, rfl, hg, hrow, hlo, hhi⟩ := hrel
      have HG := hideIt hg
      have HROW := hideIt hrow
      have HLO := hideIt hlo
      have HHI := hideIt hhi
      clear hg hrow hlo hhi HR
      by_cases hlt : i < j
      · have hltz : (i : Int) < (j : Int) := by omega
        obtain ⟨h, eh⟩ : ∃ h : Nat, ((i : Int) + j) / 2 = (h : Int) := ⟨(i + j) / 2, by omega⟩
        have hih : i ≤ h := by omega
        have hhj : h < j := by omega
        have bp := BP.out h (by omega) (by omega)
        have bb := B.out
        have wq : IntKind.i64.wrap ((pp : Int) - h) = ((pp - h : Nat) : Int) := by rw [wrap_small] <;> omega
        have M1 : Hid (∀ q, s0 ≤ q → q ≤ h → (d h).need ≤ (d q).need ∧ (d (pp - q)).need ≤ (d (pp - h)).need) := fun q q1 q2 => ⟨HX.out.need (by omega) q2 (by omega), HY.out.need (by omega) (by omega) (BP.out q q1 (by omega)).2.1⟩
        have M2 : Hid (∀ q, h ≤ q → q < r0 → (d q).need ≤ (d h).need ∧ (d (pp - h)).need ≤ (d (pp - q)).need) := fun q q1 q2 => ⟨HX.out.need (by omega) q1 (by omega), HY.out.need (BP.out q (by omega) q2).1 (by omega) (by omega)⟩
        obtain ⟨ph, hph⟩ : ∃ ph, pp - h = ph := ⟨_, rfl⟩
        rw [hph] at wq bp M1 M2
        have b1 : (h : Int) < (n : Int) := by omega
        have b2 : (ph : Int) < (n : Int) := by omega
        have IH1 := HROW.out.at h (by omega)
        have IA := HROW.out.at ph (by omega)
        obtain ⟨j0, j1, j2, j3⟩ := IH1
        obtain ⟨p0, p1, p2, p3⟩ := IA
        have CC := hideIt (cmp_grown (d ph) (d h) wr)
        have HPH := hideIt hph
        clear hph
        generalize hxh : d h = xh at *
        generalize hxa : d ph = xa at *
        clear hxh hxa
        cases hc : decide (cf xa xh < 0) with
        | false =>
          have HCF := hideIt (show xa.need ≤ xh.need by have := of_decide_eq_false hc; rw [cf_neg] at this; omega)
          go_wp2_with fail
          refine wp_region_quiet_grown mixed (by kernel_rfl) ?_
          repeat (go_big_quiet_step (first | (go_at_call 12; refine Calls.grown_of (CC.out _ _))))
          refine wpQuiet_nil ?_
          intro _ hw'
          obtain ⟨⟨nq, osq⟩, hw''⟩ := hw'
          subst hw''
          clear j0 j1 j2 j3 p0 p1 p2 p3 CC hc wq
          go_wp2
          have L1 : ∀ q, s0 ≤ q → q < h + 1 → (d (pp - q)).need ≤ (d q).need := fun q q1 q2 => by
            have := M1.out q q1 (by omega)
            have := HCF.out
            omega
          first
            | exact ⟨⟨h + 1, j, by omega, by omega, hjr, by first | rfl | go_num, rfl, grownBy_grow HG.out nq osq, HROW.out.grow nq osq, L1, HHI.out⟩, by simp [intOf]; omega⟩
            | exact ⟨⟨h + 1, by omega, j, by omega, hjr, by simp, rfl, grownBy_grow HG.out nq osq, HROW.out.grow nq osq, L1, HHI.out⟩, by simp [intOf]; omega⟩
        | true =>
          have HCF := hideIt (cf_neg.1 (of_decide_eq_true hc))
          go_wp2_with fail
          refine wp_region_quiet_grown mixed (by kernel_rfl) ?_
          repeat (go_big_quiet_step (first | (go_at_call 12; refine Calls.grown_of (CC.out _ _))))
          refine wpQuiet_nil ?_
          intro _ hw'
          obtain ⟨⟨nq, osq⟩, hw''⟩ := hw'
          subst hw''
          clear j0 j1 j2 j3 p0 p1 p2 p3 CC hc wq
          go_wp2
          have L1 : ∀ q, h ≤ q → q < r0 → (d q).need < (d (pp - q)).need := fun q q1 q2 => by
            have := M2.out q q1 q2
            have := HCF.out
            omega
          first
            | exact ⟨⟨i, h, hsi, hih, by omega, rfl, rfl, grownBy_grow HG.out nq osq, HROW.out.grow nq osq, HLO.out, L1⟩, by simp [intOf]; omega⟩
            | exact ⟨⟨i, hsi, h, hih, by omega, rfl, rfl, grownBy_grow HG.out nq osq, HROW.out.grow nq osq, HLO.out, L1⟩, by simp [intOf]; omega⟩
      · have hji : i = j := by omega
        subst hji
        have bb := B.out
        have nnv := NN.out
        have ppv := PP.out
        have we : IntKind.i64.wrap ((nn : Int) - i) = ((nn - i : Nat) : Int) := by rw [wrap_small] <;> omega
        obtain ⟨e, he⟩ : ∃ e, nn - i = e := ⟨_, rfl⟩
        rw [he] at we
        have hme : m ≤ e := by omega
        have heb : e ≤ b := by omega
        have him : i ≤ m := by omega
        have hid : i ≤ mid := by omega
        have hai : a ≤ i := by omega
        have hde : mid ≤ e := by omega
        have SP := split_of HO.out (d := d) (a := a) (s := i) (m := m) (e := e) (b := b) (mid := mid) (by omega) him hme heb (by omega) HX.out HY.out HC.out
          (fun q1 q2 => by
            by_cases c : s0 < i
            · have t := HLO.out (i - 1) (by omega) (by omega)
              rw [show pp - (i - 1) = e by omega] at t
              exact T.of_not (by rw [cf_neg]; omega) (HC.out (i - 1) e (by omega) (by omega) hme q2)
            · omega)
          (fun q1 q2 => by
            by_cases c : i < r0
            · have t := HHI.out i (Nat.le_refl _) c
              rw [show pp - i = e - 1 by omega] at t
              exact .inl t
            · omega)
        have SM := ro_same d (a := a) (b := b) (s := i) (m := m) (e := e) (by omega) him hme heb
        have HSP := hideIt SP
        have HSM := hideIt SM
        have HCL := hideIt he
        clear SP SM he HLO HHI bb nnv ppv B BP NN PP SV HX HY HC
        go_upto_region 39 with fail
        clear we
        go_cut [185] from 178 to 185 (fun c wx => c = .bool (decide (i < m ∧ m < e)) ∧ wx = wr)
        case first =>
          by_cases c1 : i < m
          · have z1 : (i : Int) < (m : Int) := by omega
            by_cases c2 : m < e
            · have z2 : (m : Int) < (e : Int) := by omega
              go_wp2
              go_meet
              exact ⟨by rw [decide_eq_true (p := i < m ∧ m < e) ⟨c1, c2⟩], rfl⟩
            · have z2 : ¬ ((m : Int) < (e : Int)) := by omega
              go_wp2
              go_meet
              exact ⟨by rw [decide_eq_false (p := i < m ∧ m < e) (fun h => c2 h.2)], rfl⟩
          · have z1 : ¬ ((i : Int) < (m : Int)) := by omega
            go_wp2
            go_meet
            exact ⟨by rw [decide_eq_false (p := i < m ∧ m < e) (fun h => c1 h.1)], rfl⟩
        case rest =>
          obtain ⟨rfl, rfl⟩ := hcut
          go_upto_if 185 with fail
          go_cut [] from 178 to 191 (fun w1 => w.grownBy w1 (some IB) ∧ Row w1 IB n (fun p => d (roI i m e p)))
          case first =>
            by_cases c1 : i < m ∧ m < e
            · rw [decide_eq_true c1]
              have CR := hideIt (rotate_any IB n cap i m e (.func (.func 12) #[] #[]) d wc HROW.out c1.1 c1.2 (by omega) (by omega))
              go_wp2_with fail
              refine CR.out.mono ?_
              rintro e' w1 ⟨rfl, hg1, hrow1⟩
              have HG1 := hideIt (grownBy_trans HG.out hg1)
              have HR1 := hideIt hrow1
              clear hg1 hrow1 CR
              go_wp2
              go_meet
              exact ⟨HG1.out, HR1.out⟩
            · rw [decide_eq_false c1]
              go_wp2
              go_meet
              exact ⟨HG.out, by rw [ro_none him hme c1]; exact HROW.out⟩
          case rest =>
            obtain ⟨hg1, hr1⟩ := hcut
            obtain ⟨w1, rfl⟩ : ∃ w1 : World, w1 = wc := ⟨_, rfl⟩
            have HG1 := hideIt hg1
            have HR1 := hideIt hr1
            clear hg1 hr1 HG HROW
            generalize hd1 : (fun p => d (roI i m e p)) = d1 at *
            clear hd1
            go_upto_region 41 with fail
            go_cut [199] from 178 to 199 (fun c wx => c = .bool (decide (a < i ∧ i < mid)) ∧ wx = w1)
            case first =>
              by_cases c1 : a < i
              · have z1 : (a : Int) < (i : Int) := by omega
                by_cases c2 : i < mid
                · have z2 : (i : Int) < (mid : Int) := by omega
                  go_wp2
                  go_meet
                  exact ⟨by rw [decide_eq_true (p := a < i ∧ i < mid) ⟨c1, c2⟩], rfl⟩
                · have z2 : ¬ ((i : Int) < (mid : Int)) := by omega
                  go_wp2
                  go_meet
                  exact ⟨by rw [decide_eq_false (p := a < i ∧ i < mid) (fun h => c2 h.2)], rfl⟩
              · have z1 : ¬ ((a : Int) < (i : Int)) := by omega
                go_wp2
                go_meet
                exact ⟨by rw [decide_eq_false (p := a < i ∧ i < mid) (fun h => c1 h.1)], rfl⟩
            case rest =>
              obtain ⟨rfl, rfl⟩ := hcut
              go_upto_if 199 with fail
              go_cut [] from 178 to 205 (fun w2 => w.grownBy w2 (some IB) ∧ ∃ d2, Row w2 IB n d2 ∧ Same a mid d1 d2 ∧ Srt O d2 a mid)
              case first =>
                by_cases c1 : a < i ∧ i < mid
                · rw [decide_eq_true c1]
                  have CR := hideIt (IH.out a i mid d1 wc (by omega) HR1.out c1.1 c1.2 (by omega) HSP.out.s1 HSP.out.s2 HSP.out.c1)
                  go_wp2_with fail
                  refine CR.out.mono ?_
                  rintro e' w2 ⟨rfl, hg2, d2, hr2, hs2, ht2⟩
                  have H2 := hideIt (show w.grownBy w2 (some IB) ∧ ∃ d2, Row w2 IB n d2 ∧ Same a mid d1 d2 ∧ Srt O d2 a mid from ⟨grownBy_trans HG1.out hg2, d2, hr2, hs2, ht2⟩)
                  clear hg2 hr2 hs2 ht2 CR
                  go_wp2
                  go_meet
                  exact H2.out
                · rw [decide_eq_false c1]
                  go_wp2
                  go_meet
                  exact ⟨HG1.out, d1, HR1.out, Same.refl _ _ _, left_srt HSP.out (by omega) hid c1⟩
              case rest =>
                obtain ⟨hg2, d2, hr2, hs2, ht2⟩ := hcut
                obtain ⟨w1, rfl⟩ : ∃ w1 : World, w1 = wc := ⟨_, rfl⟩
                have HG2 := hideIt hg2
                have HR2 := hideIt hr2
                have HS2 := hideIt hs2
                have HT2 := hideIt ht2
                clear hg2 hr2 hs2 ht2 HG1 HR1
                go_upto_region 43 with fail
                go_cut [213] from 178 to 213 (fun c wx => c = .bool (decide (mid < e ∧ e < b)) ∧ wx = w1)
                case first =>
                  by_cases c1 : mid < e
                  · have z1 : (mid : Int) < (e : Int) := by omega
                    by_cases c2 : e < b
                    · have z2 : (e : Int) < (b : Int) := by omega
                      go_wp2
                      go_meet
                      exact ⟨by rw [decide_eq_true (p := mid < e ∧ e < b) ⟨c1, c2⟩], rfl⟩
                    · have z2 : ¬ ((e : Int) < (b : Int)) := by omega
                      go_wp2
                      go_meet
                      exact ⟨by rw [decide_eq_false (p := mid < e ∧ e < b) (fun h => c2 h.2)], rfl⟩
                  · have z1 : ¬ ((mid : Int) < (e : Int)) := by omega
                    go_wp2
                    go_meet
                    exact ⟨by rw [decide_eq_false (p := mid < e ∧ e < b) (fun h => c1 h.1)], rfl⟩
                case rest =>
                  obtain ⟨rfl, rfl⟩ := hcut
                  by_cases c1 : mid < e ∧ e < b
                  · rw [decide_eq_true c1]
                    have CR := hideIt (IH.out mid e b d2 wc (by omega) HR2.out c1.1 c1.2 (by omega) (srt_same HSP.out.s3 HS2.out (.inr (Nat.le_refl _))) (srt_same HSP.out.s4 HS2.out (.inr (by omega))) (crs_same HSP.out.c2 HS2.out (.inr (Nat.le_refl _))))
                    go_wp2_with fail
                    refine CR.out.mono ?_
                    rintro e' w3 ⟨rfl, hg3, d3, hr3, hs3, ht3⟩
                    have F := merge_fin HSP.out HS2.out HT2.out hs3 ht3 (by omega) (by omega)
                    have H3 := hideIt (show MergePost O IB n a b d w (.returned (.tuple #[])) w3 from ⟨rfl, grownBy_trans HG2.out hg3, d3, hr3, HSM.out.trans F.1, F.2⟩)
                    clear F hg3 hr3 hs3 ht3 CR
                    go_wp2
                    first | go_end0 | refine bodyPost_ret (results_none rfl _ _ _) rfl ?_
                    exact H3.out
                  · rw [decide_eq_false c1]
                    have F := merge_fin HSP.out HS2.out HT2.out (Same.refl mid b d2) (by
                      by_cases c2 : mid < e
                      · have : e = b := by omega
                        subst this; exact srt_same HSP.out.s3 HS2.out (.inr (Nat.le_refl _))
                      · have : e = mid := by omega
                        subst this; exact srt_same HSP.out.s4 HS2.out (.inr (Nat.le_refl _))) (by omega) (by omega)
                    have H3 := hideIt (show MergePost O IB n a b d w (.returned (.tuple #[])) wc from ⟨rfl, HG2.out, d2, HR2.out, HSM.out.trans F.1, F.2⟩)
                    clear F
                    go_wp2
                    first | go_end0 | refine bodyPost_ret (results_none rfl _ _ _) rfl ?_
                    exact H3.out
  · obtain ⟨s0, hs0⟩ : ∃ s0, s0 = a := ⟨_, rfl⟩
    obtain ⟨r0, hr0⟩ : ∃ r0, r0 = m := ⟨_, rfl⟩
    have hmz : ¬ ((mid : Int) < (m : Int)) := by omega
    have B := hideIt (show a ≤ s0 ∧ s0 ≤ r0 ∧ r0 ≤ m ∧ r0 ≤ mid ∧ nn - s0 ≤ b ∧ (s0 = a ∨ nn - s0 = b) ∧ (r0 = m ∨ nn - r0 = m) by omega)
    have BP : Hid (∀ c, s0 ≤ c → c < r0 → m ≤ pp - c ∧ pp - c < b ∧ c ≤ pp) := fun c c1 c2 => by omega
    have NN := hideIt hnn
    have PP := hideIt hpp
    have SV : Hid (s0 = a ∧ r0 = m) := ⟨hs0, hr0⟩
    clear hnn hpp hs0 hr0
    go_enter Yba.func47, Yba.ntmps47
    go_wp2
    clear wn wp emid w0 w1 w0b w1b
    go_loopw [20, 21] (fun vi vj wr => ∃ i j : Nat, s0 ≤ i ∧ i ≤ j ∧ j ≤ r0 ∧ vi = .int .i64 i ∧ vj = .int .i64 j ∧ w.grownBy wr (some IB) ∧ Row wr IB n d ∧ (∀ q, s0 ≤ q → q < i → (d (pp - q)).need ≤ (d q).need) ∧ (∀ q, j ≤ q → q < r0 → (d q).need < (d (pp - q)).need)) (fun vi vj _ => (intOf vj).toNat - (intOf vi).toNat)
    case atStart => exact ⟨s0, r0, Nat.le_refl _, B.out.2.1, Nat.le_refl _, by first | rfl | rw [SV.out.1], by first | rfl | rw [SV.out.2], grownBy_refl _ _, HR.out, fun q q1 q2 => by omega, fun q q1 q2 => by omega⟩
    case round =>
      obtain ⟨i, j, hsi, hij, hjr, rfl, rfl, hg, hrow, hlo, hhi⟩ := hrel
      have HG := hideIt hg
      have HROW := hideIt hrow
      have HLO := hideIt hlo
      have HHI := hideIt hhi
      clear hg hrow hlo hhi HR
      by_cases hlt : i < j
      · have hltz : (i : Int) < (j : Int) := by omega
        obtain ⟨h, eh⟩ : ∃ h : Nat, ((i : Int) + j) / 2 = (h : Int) := ⟨(i + j) / 2, by omega⟩
        have hih : i ≤ h := by omega
        have hhj : h < j := by omega
        have bp := BP.out h (by omega) (by omega)
        have bb := B.out
        have wq : IntKind.i64.wrap ((pp : Int) - h) = ((pp - h : Nat) : Int) := by rw [wrap_small] <;> omega
        have M1 : Hid (∀ q, s0 ≤ q → q ≤ h → (d h).need ≤ (d q).need ∧ (d (pp - q)).need ≤ (d (pp - h)).need) := fun q q1 q2 => ⟨HX.out.need (by omega) q2 (by omega), HY.out.need (by omega) (by omega) (BP.out q q1 (by omega)).2.1⟩
        have M2 : Hid (∀ q, h ≤ q → q < r0 → (d q).need ≤ (d h).need ∧ (d (pp - h)).need ≤ (d (pp - q)).need) := fun q q1 q2 => ⟨HX.out.need (by omega) q1 (by omega), HY.out.need (BP.out q (by omega) q2).1 (by omega) (by omega)⟩
        obtain ⟨ph, hph⟩ : ∃ ph, pp - h = ph := ⟨_, rfl⟩
        rw [hph] at wq bp M1 M2
        have b1 : (h : Int) < (n : Int) := by omega
        have b2 : (ph : Int) < (n : Int) := by omega
        have IH1 := HROW.out.at h (by omega)
        have IA := HROW.out.at ph (by omega)
        obtain ⟨j0, j1, j2, j3⟩ := IH1
        obtain ⟨p0, p1, p2, p3⟩ := IA
        have CC := hideIt (cmp_grown (d ph) (d h) wr)
        have HPH := hideIt hph
        clear hph
        generalize hxh : d h = xh at *
        generalize hxa : d ph = xa at *
        clear hxh hxa
        cases hc : decide (cf xa xh < 0) with
        | false =>
          have HCF := hideIt (show xa.need ≤ xh.need by have := of_decide_eq_false hc; rw [cf_neg] at this; omega)
          go_wp2_with fail
          refine wp_region_quiet_grown mixed (by kernel_rfl) ?_
          repeat (go_big_quiet_step (first | (go_at_call 12; refine Calls.grown_of (CC.out _ _))))
          refine wpQuiet_nil ?_
          intro _ hw'
          obtain ⟨⟨nq, osq⟩, hw''⟩ := hw'
          subst hw''
          clear j0 j1 j2 j3 p0 p1 p2 p3 CC hc wq
          go_wp2
          have L1 : ∀ q, s0 ≤ q → q < h + 1 → (d (pp - q)).need ≤ (d q).need := fun q q1 q2 => by
            have := M1.out q q1 (by omega)
            have := HCF.out
            omega
          first
            | exact ⟨⟨h + 1, j, by omega, by omega, hjr, by first | rfl | go_num, rfl, grownBy_grow HG.out nq osq, HROW.out.grow nq osq, L1, HHI.out⟩, by simp [intOf]; omega⟩
            | exact ⟨⟨h + 1, by omega, j, by omega, hjr, by simp, rfl, grownBy_grow HG.out nq osq, HROW.out.grow nq osq, L1, HHI.out⟩, by simp [intOf]; omega⟩
        | true =>
          have HCF := hideIt (cf_neg.1 (of_decide_eq_true hc))
          go_wp2_with fail
          refine wp_region_quiet_grown mixed (by kernel_rfl) ?_
          repeat (go_big_quiet_step (first | (go_at_call 12; refine Calls.grown_of (CC.out _ _))))
          refine wpQuiet_nil ?_
          intro _ hw'
          obtain ⟨⟨nq, osq⟩, hw''⟩ := hw'
          subst hw''
          clear j0 j1 j2 j3 p0 p1 p2 p3 CC hc wq
          go_wp2
          have L1 : ∀ q, h ≤ q → q < r0 → (d q).need < (d (pp - q)).need := fun q q1 q2 => by
            have := M2.out q q1 q2
            have := HCF.out
            omega
          first
            | exact ⟨⟨i, h, hsi, hih, by omega, rfl, rfl, grownBy_grow HG.out nq osq, HROW.out.grow nq osq, HLO.out, L1⟩, by simp [intOf]; omega⟩
            | exact ⟨⟨i, hsi, h, hih, by omega, rfl, rfl, grownBy_grow HG.out nq osq, HROW.out.grow nq osq, HLO.out, L1⟩, by simp [intOf]; omega⟩
      · have hji : i = j := by omega
        subst hji
        have bb := B.out
        have nnv := NN.out
        have ppv := PP.out
        have we : IntKind.i64.wrap ((nn : Int) - i) = ((nn - i : Nat) : Int) := by rw [wrap_small] <;> omega
        obtain ⟨e, he⟩ : ∃ e, nn - i = e := ⟨_, rfl⟩
        rw [he] at we
        have hme : m ≤ e := by omega
        have heb : e ≤ b := by omega
        have him : i ≤ m := by omega
        have hid : i ≤ mid := by omega
        have hai : a ≤ i := by omega
        have hde : mid ≤ e := by omega
        have SP := split_of HO.out (d := d) (a := a) (s := i) (m := m) (e := e) (b := b) (mid := mid) (by omega) him hme heb (by omega) HX.out HY.out HC.out
          (fun q1 q2 => by
            by_cases c : s0 < i
            · have t := HLO.out (i - 1) (by omega) (by omega)
              rw [show pp - (i - 1) = e by omega] at t
              exact T.of_not (by rw [cf_neg]; omega) (HC.out (i - 1) e (by omega) (by omega) hme q2)
            · omega)
          (fun q1 q2 => by
            by_cases c : i < r0
            · have t := HHI.out i (Nat.le_refl _) c
              rw [show pp - i = e - 1 by omega] at t
              exact .inl t
            · omega)
        have SM := ro_same d (a := a) (b := b) (s := i) (m := m) (e := e) (by omega) him hme heb
        have HSP := hideIt SP
        have HSM := hideIt SM
        have HCL := hideIt he
        clear SP SM he HLO HHI bb nnv ppv B BP NN PP SV HX HY HC
        go_upto_region 39 with fail
        clear we
        go_cut [185] from 178 to 185 (fun c wx => c = .bool (decide (i < m ∧ m < e)) ∧ wx = wr)
        case first =>
          by_cases c1 : i < m
          · have z1 : (i : Int) < (m : Int) := by omega
            by_cases c2 : m < e
            · have z2 : (m : Int) < (e : Int) := by omega
              go_wp2
              go_meet
              exact ⟨by rw [decide_eq_true (p := i < m ∧ m < e) ⟨c1, c2⟩], rfl⟩
            · have z2 : ¬ ((m : Int) < (e : Int)) := by omega
              go_wp2
              go_meet
              exact ⟨by rw [decide_eq_false (p := i < m ∧ m < e) (fun h => c2 h.2)], rfl⟩
          · have z1 : ¬ ((i : Int) < (m : Int)) := by omega
            go_wp2
            go_meet
            exact ⟨by rw [decide_eq_false (p := i < m ∧ m < e) (fun h => c1 h.1)], rfl⟩
        case rest =>
          obtain ⟨rfl, rfl⟩ := hcut
          go_upto_if 185 with fail
          go_cut [] from 178 to 191 (fun w1 => w.grownBy w1 (some IB) ∧ Row w1 IB n (fun p => d (roI i m e p)))
          case first =>
            by_cases c1 : i < m ∧ m < e
            · rw [decide_eq_true c1]
              have CR := hideIt (rotate_any IB n cap i m e (.func (.func 12) #[] #[]) d wc HROW.out c1.1 c1.2 (by omega) (by omega))
              go_wp2_with fail
              refine CR.out.mono ?_
              rintro e' w1 ⟨rfl, hg1, hrow1⟩
              have HG1 := hideIt (grownBy_trans HG.out hg1)
              have HR1 := hideIt hrow1
              clear hg1 hrow1 CR
              go_wp2
              go_meet
              exact ⟨HG1.out, HR1.out⟩
            · rw [decide_eq_false c1]
              go_wp2
              go_meet
              exact ⟨HG.out, by rw [ro_none him hme c1]; exact HROW.out⟩
          case rest =>
            obtain ⟨hg1, hr1⟩ := hcut
            obtain ⟨w1, rfl⟩ : ∃ w1 : World, w1 = wc := ⟨_, rfl⟩
            have HG1 := hideIt hg1
            have HR1 := hideIt hr1
            clear hg1 hr1 HG HROW
            generalize hd1 : (fun p => d (roI i m e p)) = d1 at *
            clear hd1
            go_upto_region 41 with fail
            go_cut [199] from 178 to 199 (fun c wx => c = .bool (decide (a < i ∧ i < mid)) ∧ wx = w1)
            case first =>
              by_cases c1 : a < i
              · have z1 : (a : Int) < (i : Int) := by omega
                by_cases c2 : i < mid
                · have z2 : (i : Int) < (mid : Int) := by omega
                  go_wp2
                  go_meet
                  exact ⟨by rw [decide_eq_true (p := a < i ∧ i < mid) ⟨c1, c2⟩], rfl⟩
                · have z2 : ¬ ((i : Int) < (mid : Int)) := by omega
                  go_wp2
                  go_meet
                  exact ⟨by rw [decide_eq_false (p := a < i ∧ i < mid) (fun h => c2 h.2)], rfl⟩
              · have z1 : ¬ ((a : Int) < (i : Int)) := by omega
                go_wp2
                go_meet
                exact ⟨by rw [decide_eq_false (p := a < i ∧ i < mid) (fun h => c1 h.1)], rfl⟩
            case rest =>
              obtain ⟨rfl, rfl⟩ := hcut
              go_upto_if 199 with fail
              go_cut [] from 178 to 205 (fun w2 => w.grownBy w2 (some IB) ∧ ∃ d2, Row w2 IB n d2 ∧ Same a mid d1 d2 ∧ Srt O d2 a mid)
              case first =>
                by_cases c1 : a < i ∧ i < mid
                · rw [decide_eq_true c1]
                  have CR := hideIt (IH.out a i mid d1 wc (by omega) HR1.out c1.1 c1.2 (by omega) HSP.out.s1 HSP.out.s2 HSP.out.c1)
                  go_wp2_with fail
                  refine CR.out.mono ?_
                  rintro e' w2 ⟨rfl, hg2, d2, hr2, hs2, ht2⟩
                  have H2 := hideIt (show w.grownBy w2 (some IB) ∧ ∃ d2, Row w2 IB n d2 ∧ Same a mid d1 d2 ∧ Srt O d2 a mid from ⟨grownBy_trans HG1.out hg2, d2, hr2, hs2, ht2⟩)
                  clear hg2 hr2 hs2 ht2 CR
                  go_wp2
                  go_meet
                  exact H2.out
                · rw [decide_eq_false c1]
                  go_wp2
                  go_meet
                  exact ⟨HG1.out, d1, HR1.out, Same.refl _ _ _, left_srt HSP.out (by omega) hid c1⟩
              case rest =>
                obtain ⟨hg2, d2, hr2, hs2, ht2⟩ := hcut
                obtain ⟨w1, rfl⟩ : ∃ w1 : World, w1 = wc := ⟨_, rfl⟩
                have HG2 := hideIt hg2
                have HR2 := hideIt hr2
                have HS2 := hideIt hs2
                have HT2 := hideIt ht2
                clear hg2 hr2 hs2 ht2 HG1 HR1
                go_upto_region 43 with fail
                go_cut [213] from 178 to 213 (fun c wx => c = .bool (decide (mid < e ∧ e < b)) ∧ wx = w1)
                case first =>
                  by_cases c1 : mid < e
                  · have z1 : (mid : Int) < (e : Int) := by omega
                    by_cases c2 : e < b
                    · have z2 : (e : Int) < (b : Int) := by omega
                      go_wp2
                      go_meet
                      exact ⟨by rw [decide_eq_true (p := mid < e ∧ e < b) ⟨c1, c2⟩], rfl⟩
                    · have z2 : ¬ ((e : Int) < (b : Int)) := by omega
                      go_wp2
                      go_meet
                      exact ⟨by rw [decide_eq_false (p := mid < e ∧ e < b) (fun h => c2 h.2)], rfl⟩
                  · have z1 : ¬ ((mid : Int) < (e : Int)) := by omega
                    go_wp2
                    go_meet
                    exact ⟨by rw [decide_eq_false (p := mid < e ∧ e < b) (fun h => c1 h.1)], rfl⟩
                case rest =>
                  obtain ⟨rfl, rfl⟩ := hcut
                  by_cases c1 : mid < e ∧ e < b
                  · rw [decide_eq_true c1]
                    have CR := hideIt (IH.out mid e b d2 wc (by omega) HR2.out c1.1 c1.2 (by omega) (srt_same HSP.out.s3 HS2.out (.inr (Nat.le_refl _))) (srt_same HSP.out.s4 HS2.out (.inr (by omega))) (crs_same HSP.out.c2 HS2.out (.inr (Nat.le_refl _))))
                    go_wp2_with fail
                    refine CR.out.mono ?_
                    rintro e' w3 ⟨rfl, hg3, d3, hr3, hs3, ht3⟩
                    have F := merge_fin HSP.out HS2.out HT2.out hs3 ht3 (by omega) (by omega)
                    have H3 := hideIt (show MergePost O IB n a b d w (.returned (.tuple #[])) w3 from ⟨rfl, grownBy_trans HG2.out hg3, d3, hr3, HSM.out.trans F.1, F.2⟩)
                    clear F hg3 hr3 hs3 ht3 CR
                    go_wp2
                    first | go_end0 | refine bodyPost_ret (results_none rfl _ _ _) rfl ?_
                    exact H3.out
                  · rw [decide_eq_false c1]
                    have F := merge_fin HSP.out HS2.out HT2.out (Same.refl mid b d2) (by
                      by_cases c2 : mid < e
                      · have : e = b := by omega
                        subst this; exact srt_same HSP.out.s3 HS2.out (.inr (Nat.le_refl _))
                      · have : e = mid := by omega
                        subst this; exact srt_same HSP.out.s4 HS2.out (.inr (Nat.le_refl _))) (by omega) (by omega)
                    have H3 := hideIt (show MergePost O IB n a b d w (.returned (.tuple #[])) wc from ⟨rfl, HG2.out, d2, HR2.out, HSM.out.trans F.1, F.2⟩)
                    clear F
                    go_wp2
                    first | go_end0 | refine bodyPost_ret (results_none rfl _ _ _) rfl ?_
                    exact H3.out

theorem merge_any (O : It → It → Prop) (hO : ∀ x y z, O x y → O y z → O x z) (IB n cap : Nat) (hn : n ≤ 1000000000000) : ∀ (N a m b : Nat) (d : Nat → It) (w : World), b - a < N → Row w IB n d → a < m → m < b → b ≤ n → Srt O d a m → Srt O d m b → Crs O d a m b →
    Calls Yba.prog 47 #[.slice (some ⟨IB, 0, none⟩) n cap, .int .i64 a, .int .i64 m, .int .i64 b, .func (.func 12) #[] #[]] w (MergePost O IB n a b d w) := by
  intro N
  induction N with
  | zero => intro a m b d w h; omega
  | succ N ih =>
    intro a m b d w hN hR h1 h2 h3 hx hy hc
    by_cases c1 : m = a + 1
    · subst c1
      exact merge_one O hO IB n cap a b d w hR h2 h3 hn hy hc
    · by_cases c2 : b = m + 1
      · subst c2
        exact merge_last O hO IB n cap a m d w hR (by omega) h3 hn hx hc
      · exact merge_wide O hO IB n cap a m b d w hR (by omega) (by omega) h3 hn hx hy hc fun a' m' b' d' w' hlt => ih a' m' b' d' w' (by omega)
end Go.Proofs.Ybulkdsao
