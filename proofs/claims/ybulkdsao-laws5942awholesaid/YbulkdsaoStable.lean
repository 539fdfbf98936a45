/-
  stableCmpFunc (28), SortStableFunc (11).
-/
import Derived.Test.YbulkdsaoStab
namespace Go.Proofs.Ybulkdsao
open Go.ChangeShapes Go.WideShapes Go.ChangeAt Go.RowKit Go.Sort
set_option linter.unusedVariables false

set_option maxRecDepth 100000 in
set_option maxHeartbeats 4000000 in
theorem stable_any (O : It → It → Prop) (hO : ∀ x y z, O x y → O y z → O x z) (IB n cap : Nat) (d : Nat → It) (w : World) (hR : Row w IB n d) (hn : n ≤ 100000000000) (hord : ∀ i j, i < j → j < n → O (d i) (d j)) :
    Calls Yba.prog 28 #[.slice (some ⟨IB, 0, none⟩) n cap, .int .i64 n, .func (.func 12) #[] #[]] w (MergePost O IB n 0 n d w) := by
  have HR := hideIt hR
  have HORD := hideIt hord
  have HO := hideIt hO
  clear hR hord hO
  go_enter Yba.func28, Yba.ntmps28
  go_wp2
  go_loopw [7, 8] (fun va vb wr => ∃ (k : Nat) (dk : Nat → It), k * 20 ≤ n ∧ va = .int .i64 ((k * 20 : Nat) : Int) ∧ vb = .int .i64 ((k * 20 + 20 : Nat) : Int) ∧ w.grownBy wr (some IB) ∧ Row wr IB n dk ∧ Firsts O n k d dk) (fun va _ _ => n - (intOf va).toNat)
  case atStart => exact ⟨0, d, by omega, rfl, rfl, grownBy_refl _ _, HR.out, ⟨fun q hq => by omega, fun q hq i j i1 i2 => by omega, Same.refl _ _ _⟩⟩
  case round =>
    obtain ⟨k, dk, hkn, rfl, rfl, hg, hrow, hf⟩ := hrel
    have HG := hideIt hg
    have HROW := hideIt hrow
    have HF := hideIt hf
    clear hg hrow hf HR
    obtain ⟨a, ha⟩ : ∃ a, k * 20 = a := ⟨_, rfl⟩
    have HA := hideIt ha
    rw [ha]
    rw [ha] at hkn
    clear ha
    obtain ⟨b, hb⟩ : ∃ b, a + 20 = b := ⟨_, rfl⟩
    rw [hb]
    by_cases hlt : b ≤ n
    · have hltz : (b : Int) ≤ (n : Int) := by omega
      have OR2 : ∀ i j, a ≤ i → i < j → j < b → O (dk i) (dk j) := fun i j i1 i2 i3 => by
        have := HA.out
        rw [HF.out.same.out i (by omega), HF.out.same.out j (by omega)]
        exact HORD.out i j i2 (by omega)
      have C := hideIt (insertion_any O HO.out IB n cap a b dk wr HROW.out (by omega) hlt (by omega) OR2)
      have wb : IntKind.i64.wrap ((b : Int) + 20) = ((b + 20 : Nat) : Int) := by rw [wrap_small] <;> omega
      have HB := hideIt hb
      clear hb OR2
      go_wp2_with fail
      refine C.out.mono ?_
      rintro e w' ⟨rfl, hg', d', hr', hs', ht'⟩
      have HG' := hideIt hg'
      have HR' := hideIt hr'
      have HS' := hideIt hs'
      have HT' := hideIt ht'
      clear hg' hr' hs' ht' C
      go_wp2
      have ha := HA.out
      have hb := HB.out
      refine ⟨⟨k + 1, d', by omega, by rw [show (k + 1) * 20 = b by omega], by rw [show (k + 1) * 20 + 20 = b + 20 by omega] <;> first | rfl | go_num, grownBy_trans HG.out HG'.out, HR'.out, HF.out.step HORD.out (by rw [ha, hb]; exact HS'.out) (by rw [ha, hb]; exact HT'.out) (by omega)⟩, by simp [intOf]; omega⟩
    · have hltz : ¬ ((b : Int) ≤ (n : Int)) := by omega
      have OR2 : ∀ i j, a ≤ i → i < j → j < n → O (dk i) (dk j) := fun i j i1 i2 i3 => by
        have := HA.out
        rw [HF.out.same.out i (by omega), HF.out.same.out j (by omega)]
        exact HORD.out i j i2 i3
      have C := hideIt (insertion_any O HO.out IB n cap a n dk wr HROW.out (by omega) (Nat.le_refl _) (by omega) OR2)
      clear OR2
      go_wp2_with fail
      refine C.out.mono ?_
      rintro e w' ⟨rfl, hg', d', hr', hs', ht'⟩
      have ha := HA.out
      have hblk := HF.out.fin HORD.out (d' := d') (by rw [ha]; exact hs') (by rw [ha]; exact ht') (by omega) (by omega)
      have hsame : Same 0 n d d' := (HF.out.same.wide (Nat.le_refl _) (by omega)).trans (hs'.wide (Nat.zero_le _) (Nat.le_refl _))
      have HG' := hideIt (grownBy_trans HG.out hg')
      have HR' := hideIt hr'
      have HBK := hideIt hblk
      have HSM := hideIt hsame
      clear hg' hr' hs' ht' C hblk hsame HG HROW HF HA ha
      go_wp2_with fail
      go_loopw [6] (fun vs wr => ∃ (bs : Nat) (dk : Nat → It), 20 ≤ bs ∧ bs ≤ 2 * n + 40 ∧ vs = .int .i64 bs ∧ w.grownBy wr (some IB) ∧ Row wr IB n dk ∧ Blk O n bs 0 dk ∧ Same 0 n d dk) (fun vs _ => n - (intOf vs).toNat)
      case atStart => exact ⟨20, d', Nat.le_refl _, by omega, rfl, HG'.out, HR'.out, HBK.out, HSM.out⟩
      case round =>
        obtain ⟨bs, dk, hbs0, hbs1, rfl, hg, hrow, hblk, hsame⟩ := hrel
        have HG := hideIt hg
        have HROW := hideIt hrow
        have HBLK := hideIt hblk
        have HSAME := hideIt hsame
        clear hg hrow hblk hsame HG' HR' HBK HSM
        by_cases hlt2 : bs < n
        · have hz : (bs : Int) < (n : Int) := by omega
          have w2 : IntKind.i64.wrap (2 * (bs : Int)) = ((2 * bs : Nat) : Int) := by rw [wrap_small] <;> omega
          have w3 : IntKind.i64.wrap ((bs : Int) * 2) = ((2 * bs : Nat) : Int) := by rw [wrap_small] <;> omega
          obtain ⟨b2, hb2⟩ : ∃ b2, 2 * bs = b2 := ⟨_, rfl⟩
          rw [hb2] at w2 w3
          have HB2 := hideIt hb2
          clear hb2
          go_wp2_with fail
          go_loopw [7, 8] (fun va vb wq => ∃ (k : Nat) (dq : Nat → It), k * b2 ≤ n ∧ va = .int .i64 ((k * b2 : Nat) : Int) ∧ vb = .int .i64 ((k * b2 + b2 : Nat) : Int) ∧ w.grownBy wq (some IB) ∧ Row wq IB n dq ∧ Half O n bs k dq ∧ Same 0 n d dq) (fun va _ _ => n - (intOf va).toNat)
          case atStart => exact ⟨0, dk, by omega, by simp, by simp, HG.out, HROW.out, Half.start HBLK.out, HSAME.out⟩
          case round =>
            obtain ⟨k, dq, hkn, rfl, rfl, hg, hrow, hhalf, hsame⟩ := hrel
            have HGq := hideIt hg
            have HROWq := hideIt hrow
            have HHALF := hideIt hhalf
            have HSMq := hideIt hsame
            clear hg hrow hhalf hsame HG HROW HBLK HSAME
            have hb2 := HB2.out
            have hk1 : (k + 1) * b2 = k * b2 + b2 := Nat.succ_mul _ _
            have HK1 := hideIt hk1
            clear hk1
            obtain ⟨A, hA⟩ : ∃ A, k * b2 = A := ⟨_, rfl⟩
            have HAA := hideIt hA
            rw [hA]
            rw [hA] at hkn
            clear hA
            obtain ⟨B, hB⟩ : ∃ B, A + b2 = B := ⟨_, rfl⟩
            rw [hB]
            have HBB := hideIt hB
            have hHA : k * (2 * bs) = A := by rw [hb2]; exact HAA.out
            have HHA := hideIt hHA
            have wm : IntKind.i64.wrap ((A : Int) + bs) = ((A + bs : Nat) : Int) := by rw [wrap_small] <;> omega
            have wB : IntKind.i64.wrap ((B : Int) + b2) = ((B + b2 : Nat) : Int) := by rw [wrap_small] <;> omega
            obtain ⟨M, hM⟩ : ∃ M, A + bs = M := ⟨_, rfl⟩
            rw [hM] at wm
            have HMM := hideIt hM
            clear hHA
            by_cases hlt3 : B ≤ n
            · have hz3 : (B : Int) ≤ (n : Int) := by omega
              have PRE := HHALF.out.pre (by rw [HHA.out]; omega)
              rw [HHA.out, hM] at PRE
              have C := hideIt (merge_any O HO.out IB n cap (by omega) (B - A + 1) A M B dq wr (by omega) HROWq.out (by omega) (by omega) hlt3 PRE.1 (fun i j i1 i2 i3 => PRE.2.1 i j i1 i2 (by omega)) (fun i j i1 i2 i3 i4 => PRE.2.2 i j i1 i2 i3 (by omega)))
              have hM1 : M ≤ n := by omega
              clear PRE hM hB hb2
              go_wp2_with fail
              refine C.out.mono ?_
              rintro e w' ⟨rfl, hg', d'', hr', hs', ht'⟩
              have hst := HHALF.out.step (d' := d'') (by rw [HHA.out, HB2.out, HBB.out]; exact hs') (by rw [HHA.out, HB2.out, HBB.out]; exact ht') (by rw [HHA.out, HB2.out, HBB.out]; exact hlt3)
              have hsm := HSMq.out.trans (hs'.wide (Nat.zero_le _) hlt3)
              have H1 := hideIt (grownBy_trans HGq.out hg')
              have H2 := hideIt hr'
              have H3 := hideIt hst
              have H4 := hideIt hsm
              clear hg' hr' hs' ht' C hst hsm
              go_wp2
              have hk1 := HK1.out
              have hA := HAA.out
              have hB := HBB.out
              refine ⟨⟨k + 1, d'', by omega, by rw [show (k + 1) * b2 = B by omega], by rw [show (k + 1) * b2 + b2 = B + b2 by omega] <;> first | rfl | go_num, H1.out, H2.out, H3.out, H4.out⟩, by simp [intOf]; have := HB2.out; omega⟩
            · have hz3 : ¬ ((B : Int) ≤ (n : Int)) := by omega
              by_cases hlt4 : M < n
              · have hz4 : (M : Int) < (n : Int) := by omega
                have PRE := HHALF.out.pre (by rw [HHA.out]; omega)
                rw [HHA.out, hM] at PRE
                have C := hideIt (merge_any O HO.out IB n cap (by omega) (n - A + 1) A M n dq wr (by omega) HROWq.out (by omega) hlt4 (Nat.le_refl _) PRE.1 (fun i j i1 i2 i3 => PRE.2.1 i j i1 i2 (by omega)) PRE.2.2)
                have hnb : n < A + 2 * bs := by omega
                clear PRE hM hB hb2
                go_wp2_with fail
                refine C.out.mono ?_
                rintro e w' ⟨rfl, hg', d'', hr', hs', ht'⟩
                have hst := HHALF.out.fin2 (d' := d'') (by omega) (by rw [HHA.out]; exact hnb) (by rw [HHA.out]; exact hkn) (by rw [HHA.out]; exact hs') (by rw [HHA.out]; exact ht')
                have hsm := HSMq.out.trans (hs'.wide (Nat.zero_le _) (Nat.le_refl _))
                have H1 := hideIt (grownBy_trans HGq.out hg')
                have H2 := hideIt hr'
                have H3 := hideIt hst
                have H4 := hideIt hsm
                clear hg' hr' hs' ht' C hst hsm
                go_wp2
                have hb2 := HB2.out
                refine ⟨⟨b2, d'', by omega, by omega, rfl, H1.out, H2.out, by rw [← hb2]; exact H3.out, H4.out⟩, by simp [intOf]; omega⟩
              · have hz4 : ¬ ((M : Int) < (n : Int)) := by omega
                have hst := HHALF.out.fin1 (by omega) (by rw [HHA.out]; omega) (by rw [HHA.out]; exact hkn)
                have H3 := hideIt hst
                clear hst hM hB hb2
                go_wp2
                have hb2 := HB2.out
                refine ⟨⟨b2, dq, by omega, by omega, rfl, HGq.out, HROWq.out, by rw [← hb2]; exact H3.out, HSMq.out⟩, by simp [intOf]; omega⟩
        · go_wp2
          go_end0
          exact ⟨rfl, HG.out, dk, HROW.out, HSAME.out, HBLK.out.whole (by omega)⟩

theorem sortStable_any (O : It → It → Prop) (hO : ∀ x y z, O x y → O y z → O x z) (IB n cap : Nat) (d : Nat → It) (w : World) (hR : Row w IB n d) (hn : n ≤ 100000000000) (hord : ∀ i j, i < j → j < n → O (d i) (d j)) :
    Calls Yba.prog 11 #[.slice (some ⟨IB, 0, none⟩) n cap, .func (.func 12) #[] #[]] w (MergePost O IB n 0 n d w) := by
  have C := hideIt (stable_any O hO IB n cap d w hR hn hord)
  clear hR hord hO
  go_enter Yba.func11, Yba.ntmps11
  go_wp2_with fail
  refine C.out.mono ?_
  rintro e w' ⟨rfl, hg', hd'⟩
  have H := hideIt (show MergePost O IB n 0 n d w (.returned (.tuple #[])) w' from ⟨rfl, hg', hd'⟩)
  clear hg' hd' C
  go_wp2
  go_end0
  exact H.out

theorem insertion_nil (w : World) : Calls Yba.prog 46 #[.slice none 0 0, .int .i64 0, .int .i64 0, .func (.func 12) #[] #[]] w fun e w' => e = .returned (.tuple #[]) ∧ w' = w := by
  go_enter Yba.func46, Yba.ntmps46
  go_wp2
  go_loopw [8] (fun vi wr => vi = .int .i64 1 ∧ wr = w) (fun _ _ => 0)
  case atStart => exact ⟨rfl, rfl⟩
  case round =>
    obtain ⟨rfl, rfl⟩ := hrel
    go_wp2
    go_end0
    exact ⟨rfl, rfl⟩
theorem stable_nil (w : World) : Calls Yba.prog 28 #[.slice none 0 0, .int .i64 0, .func (.func 12) #[] #[]] w fun e w' => e = .returned (.tuple #[]) ∧ w' = w := by
  go_enter Yba.func28, Yba.ntmps28
  go_wp2
  go_loopw [7, 8] (fun va vb wr => va = .int .i64 0 ∧ vb = .int .i64 20 ∧ wr = w) (fun _ _ _ => 0)
  case atStart => exact ⟨rfl, rfl, rfl⟩
  case round =>
    obtain ⟨rfl, rfl, rfl⟩ := hrel
    go_wp2_with fail
    refine (insertion_nil _).mono ?_
    rintro e w' ⟨rfl, rfl⟩
    go_wp2_with fail
    go_loopw [6] (fun vs wr => vs = .int .i64 20 ∧ wr = w') (fun _ _ => 0)
    case atStart => exact ⟨rfl, rfl⟩
    case round =>
      obtain ⟨rfl, rfl⟩ := hrel
      go_wp2
      go_end0
      exact ⟨rfl, rfl⟩
theorem sortStable_nil (w : World) : Calls Yba.prog 11 #[.slice none 0 0, .func (.func 12) #[] #[]] w fun e w' => e = .returned (.tuple #[]) ∧ w' = w := by
  go_enter Yba.func11, Yba.ntmps11
  go_wp2_with fail
  refine (stable_nil _).mono ?_
  rintro e w' ⟨rfl, rfl⟩
  go_wp2
  go_end0
  exact ⟨rfl, rfl⟩
end Go.Proofs.Ybulkdsao
