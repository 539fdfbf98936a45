/-
  swapRangeCmpFunc (59), rotateCmpFunc (57).
-/
import Derived.Test.YbulkdsaoRow
import Derived.BigRegion
import Derived.Shelf.RegionOpenPlain
import Derived.Deep.DeepBigQuietO
namespace Go.Proofs.Ybulkdsao
open Go.ChangeShapes Go.WideShapes Go.ChangeAt Go.RowKit Go.Sort
set_option linter.unusedVariables false

/-- Whence the item at place j comes. -/
def srI (a b k j : Nat) : Nat := if a ≤ j ∧ j < a + k then b + (j - a) else if b ≤ j ∧ j < b + k then a + (j - b) else j

theorem sr_step (d : Nat → It) (a b i : Nat) (h : a + i < b) : swp (fun j => d (srI a b i j)) (a + i) (b + i) = fun j => d (srI a b (i + 1) j) := by
  funext j
  simp only [swp, upd]
  by_cases e1 : j = b + i
  · subst e1
    rw [if_pos rfl]
    congr 1
    simp only [srI]
    repeat' split
    all_goals omega
  · rw [if_neg e1]
    by_cases e2 : j = a + i
    · subst e2
      rw [if_pos rfl]
      congr 1
      simp only [srI]
      repeat' split
      all_goals omega
    · rw [if_neg e2]
      congr 1
      simp only [srI]
      repeat' split
      all_goals omega

set_option maxRecDepth 100000 in
set_option maxHeartbeats 2000000 in
theorem swapRange_any (IB n cap a b k : Nat) (cv : Value) (d : Nat → It) (w : World) (hR : Row w IB n d) (h1 : a + k ≤ b) (h2 : b + k ≤ n) (hn : n ≤ 4611686018427387904) :
    Calls Yba.prog 59 #[.slice (some ⟨IB, 0, none⟩) n cap, .int .i64 a, .int .i64 b, .int .i64 k, cv] w
      fun e w' => e = .returned (.tuple #[]) ∧ w.grownBy w' (some IB) ∧ Row w' IB n (fun j => d (srI a b k j)) := by
  have mixed : Yba.prog.follows .mixedOrders = true := by kernel_rfl
  have HR := hideIt hR
  clear hR
  go_enter Yba.func59, Yba.ntmps59
  go_wp2
  go_loopw [10] (fun i wr => ∃ x : Nat, x ≤ k ∧ i = .int .i64 x ∧ w.grownBy wr (some IB) ∧ Row wr IB n (fun j => d (srI a b x j))) (fun i _ => k - (intOf i).toNat)
  case atStart => exact ⟨0, Nat.zero_le _, rfl, grownBy_refl _ _, by
    have : (fun j => d (srI a b 0 j)) = d := by funext j; simp only [srI]; congr 1; repeat' split
                                                all_goals omega
    rw [this]; exact HR.out⟩
  case round =>
    obtain ⟨x, hx, rfl, hg, hrow⟩ := hrel
    have HG := hideIt hg
    have HROW := hideIt hrow
    clear hg hrow HR
    by_cases hlt : x < k
    · have hxi : (x : Int) < (k : Int) := by omega
      have HST := hideIt (sr_step d a b x (by omega))
      have HROW2 := hideIt (HROW.out)
      obtain ⟨dk, hdk⟩ : ∃ dk, dk = fun j => d (srI a b x j) := ⟨_, rfl⟩
      rw [← hdk] at HST HROW2
      have HDK := hideIt hdk
      clear hdk HROW
      have a0 := HROW2.out.c0 (a + x) (by omega)
      have a1 := HROW2.out.c1 (a + x) (by omega)
      have a2 := HROW2.out.c2 (a + x) (by omega)
      have a3 := HROW2.out.c3 (a + x) (by omega)
      have b0 := HROW2.out.c0 (b + x) (by omega)
      have b1 := HROW2.out.c1 (b + x) (by omega)
      have b2 := HROW2.out.c2 (b + x) (by omega)
      have b3 := HROW2.out.c3 (b + x) (by omega)
      have fr := HROW2.out.frozen
      have wa : IntKind.i64.wrap ((a : Int) + x) = ((a + x : Nat) : Int) := by rw [wrap_small] <;> omega
      have wb : IntKind.i64.wrap ((b : Int) + x) = ((b + x : Nat) : Int) := by rw [wrap_small] <;> omega
      have ia : ((a + x : Nat) : Int) < (n : Int) := by omega
      have ib : ((b + x : Nat) : Int) < (n : Int) := by omega
      have S2 := hideIt (HROW2.out.swap (i := a + x) (j := b + x) (by omega) (by omega))
      have hne : a + x ≠ b + x := by omega
      generalize dk (a + x) = xa at *
      generalize dk (b + x) = xb at *
      generalize a + x = pa at *
      generalize b + x = pb at *
      go_wp2_with fail
      go_big_region_o
      obtain ⟨wz, hwz⟩ : ∃ wz, (putIt (putIt wr IB pa xb) IB pb xa).drew = wz := ⟨_, rfl⟩
      have hgz : w.grownBy wz (some IB) := by rw [← hwz]; exact swap_grownBy HG.out _ _ _ _
      rw [hwz] at S2
      simp only [putIt] at hwz
      rw [hwz]
      have HGZ := hideIt hgz
      clear hgz hwz a0 a1 a2 a3 b0 b1 b2 b3 fr wa wb
      go_wp2
      go_roundw
      case rel => exact ⟨x + 1, by omega, by go_num, HGZ.out, by rw [← HST.out]; exact S2.out⟩
      case measure => simp [intOf]; omega
    · have hkx : k = x := by omega
      subst hkx
      go_wp2
      go_end0
      exact ⟨rfl, HG.out, HROW.out⟩
end Go.Proofs.Ybulkdsao
