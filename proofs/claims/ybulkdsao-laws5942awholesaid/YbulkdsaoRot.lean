/-
  rotateCmpFunc (57).
-/
import Derived.Test.YbulkdsaoSwap
namespace Go.Proofs.Ybulkdsao
open Go.ChangeShapes Go.WideShapes Go.ChangeAt Go.RowKit Go.Sort
set_option linter.unusedVariables false

/-- Whence the item at place j comes. -/
def roI (a m b j : Nat) : Nat := if a ≤ j ∧ j < a + (b - m) then j + (m - a) else if a + (b - m) ≤ j ∧ j < b then j - (b - m) else j

theorem ro_gt {m i j : Nat} (hi : i ≤ m) (h : j < i) (x : Nat) : srI (m - i) m j (roI (m - (i - j)) m (m + j) x) = roI (m - i) m (m + j) x := by
  simp only [srI, roI]
  repeat' split
  all_goals omega
theorem ro_lt {m i j : Nat} (hi : i ≤ m) (h : i < j) (x : Nat) : srI (m - i) (m + j - i) i (roI (m - i) m (m + (j - i)) x) = roI (m - i) m (m + j) x := by
  simp only [srI, roI]
  repeat' split
  all_goals omega
theorem ro_eq {m i : Nat} (hi : i ≤ m) (x : Nat) : srI (m - i) m i x = roI (m - i) m (m + i) x := by
  simp only [srI, roI]
  repeat' split
  all_goals omega

set_option maxRecDepth 100000 in
set_option maxHeartbeats 2000000 in
theorem rotate_any (IB n cap a m b : Nat) (cv : Value) (d : Nat → It) (w : World) (hR : Row w IB n d) (h1 : a < m) (h2 : m < b) (h3 : b ≤ n) (hn : n ≤ 4611686018427387904) :
    Calls Yba.prog 57 #[.slice (some ⟨IB, 0, none⟩) n cap, .int .i64 a, .int .i64 m, .int .i64 b, cv] w
      fun e w' => e = .returned (.tuple #[]) ∧ w.grownBy w' (some IB) ∧ Row w' IB n (fun j => d (roI a m b j)) := by
  have HR := hideIt hR
  clear hR
  have wa : IntKind.i64.wrap ((m : Int) - a) = ((m - a : Nat) : Int) := by rw [wrap_small] <;> omega
  have wb : IntKind.i64.wrap ((b : Int) - m) = ((b - m : Nat) : Int) := by rw [wrap_small] <;> omega
  obtain ⟨i0, hi0⟩ : ∃ i0, m - a = i0 := ⟨_, rfl⟩
  obtain ⟨j0, hj0⟩ : ∃ j0, b - m = j0 := ⟨_, rfl⟩
  rw [hi0] at wa
  rw [hj0] at wb
  have HI0 := hideIt hi0
  have HJ0 := hideIt hj0
  clear hi0 hj0
  go_enter Yba.func57, Yba.ntmps57
  go_wp2
  clear wa wb
  go_loopw [10, 11] (fun vi vj wr => ∃ (i j : Nat) (dk : Nat → It), 0 < i ∧ 0 < j ∧ a + i ≤ m ∧ m + j ≤ b ∧ vi = .int .i64 i ∧ vj = .int .i64 j ∧ w.grownBy wr (some IB) ∧ Row wr IB n dk ∧ ∀ x, dk (roI (m - i) m (m + j) x) = d (roI a m b x)) (fun vi vj _ => (intOf vi).toNat + (intOf vj).toNat)
  case atStart =>
    have e1 := HI0.out
    have e2 := HJ0.out
    exact ⟨i0, j0, d, by omega, by omega, by omega, by omega, rfl, rfl, grownBy_refl _ _, HR.out, fun x => by rw [show m - i0 = a by omega, show m + j0 = b by omega]⟩
  case round =>
    obtain ⟨i, j, dk, hi, hj, hia, hjb, rfl, rfl, hg, hrow, heq⟩ := hrel
    have HG := hideIt hg
    have HROW := hideIt hrow
    have HEQ := hideIt heq
    clear hg hrow heq HR
    have w1 : IntKind.i64.wrap ((m : Int) - i) = ((m - i : Nat) : Int) := by rw [wrap_small] <;> omega
    rcases (show i = j ∨ j < i ∨ i < j by omega) with he | he | he
    · subst he
      have C := hideIt (swapRange_any IB n cap (m - i) m i cv dk wr HROW.out (by omega) (by omega) hn)
      have heq2 : ∀ mi, m - i = mi → (fun j => dk (srI mi m i j)) = fun x => d (roI a m b x) := fun mi hm => by
        subst hm
        funext x
        rw [ro_eq (by omega)]
        exact HEQ.out x
      have HQ2 := hideIt heq2
      clear heq2
      obtain ⟨mi, hmi⟩ : ∃ mi, m - i = mi := ⟨_, rfl⟩
      rw [hmi] at w1 C
      have HMI := hideIt hmi
      clear hmi
      go_wp2_with (first | (go_at_call 59; refine C.out.mono ?_; rintro e w' ⟨rfl, hg', hrow'⟩; have HG' := hideIt hg'; have HR' := hideIt hrow'; clear hg' hrow'))
      go_end0
      refine ⟨rfl, grownBy_trans HG.out HG'.out, ?_⟩
      rw [← HQ2.out mi HMI.out]
      exact HR'.out
    · have hne : ¬ ((i : Int) = (j : Int)) := by omega
      have hgt : (j : Int) < (i : Int) := by omega
      have w2 : IntKind.i64.wrap ((i : Int) - j) = ((i - j : Nat) : Int) := by rw [wrap_small] <;> omega
      have C := hideIt (swapRange_any IB n cap (m - i) m j cv dk wr HROW.out (by omega) (by omega) hn)
      obtain ⟨mi, hmi⟩ : ∃ mi, m - i = mi := ⟨_, rfl⟩
      obtain ⟨ij, hij⟩ : ∃ ij, i - j = ij := ⟨_, rfl⟩
      rw [hmi] at w1 C
      rw [hij] at w2
      have HMI := hideIt hmi
      have HIJ := hideIt hij
      clear hmi hij
      go_wp2_with (first | (go_at_call 59; refine C.out.mono ?_; rintro e w' ⟨rfl, hg', hrow'⟩; have HG' := hideIt hg'; have HR' := hideIt hrow'; clear hg' hrow'))
      have e1 := HMI.out
      have e2 := HIJ.out
      refine ⟨⟨ij, j, _, by omega, hj, by omega, hjb, rfl, rfl, grownBy_trans HG.out HG'.out, HR'.out, fun x => ?_⟩, by simp [intOf]; omega⟩
      rw [← HEQ.out x, ← e1, ← e2, ro_gt (by omega) he]
    · have hne : ¬ ((i : Int) = (j : Int)) := by omega
      have hgt : ¬ ((j : Int) < (i : Int)) := by omega
      have w2 : IntKind.i64.wrap ((j : Int) - i) = ((j - i : Nat) : Int) := by rw [wrap_small] <;> omega
      have w3 : IntKind.i64.wrap ((m : Int) + j) = ((m + j : Nat) : Int) := by rw [wrap_small] <;> omega
      have w4 : IntKind.i64.wrap (((m + j : Nat) : Int) - i) = ((m + j - i : Nat) : Int) := by rw [wrap_small] <;> omega
      have C := hideIt (swapRange_any IB n cap (m - i) (m + j - i) i cv dk wr HROW.out (by omega) (by omega) hn)
      obtain ⟨mi, hmi⟩ : ∃ mi, m - i = mi := ⟨_, rfl⟩
      obtain ⟨ji, hji⟩ : ∃ ji, j - i = ji := ⟨_, rfl⟩
      obtain ⟨mj, hmj⟩ : ∃ mj, m + j = mj := ⟨_, rfl⟩
      obtain ⟨mji, hmji⟩ : ∃ mji, mj - i = mji := ⟨_, rfl⟩
      rw [hmj] at w3 w4 C
      rw [hmi] at w1 C
      rw [hji] at w2
      rw [hmji] at w4 C
      have HMI := hideIt hmi
      have HJI := hideIt hji
      have HMJ := hideIt hmj
      have HMJI := hideIt hmji
      clear hmi hji hmj hmji
      go_wp2_with (first | (go_at_call 59; refine C.out.mono ?_; rintro e w' ⟨rfl, hg', hrow'⟩; have HG' := hideIt hg'; have HR' := hideIt hrow'; clear hg' hrow'))
      have e1 := HMI.out
      have e2 := HJI.out
      have e3 := HMJ.out
      have e4 := HMJI.out
      refine ⟨⟨i, ji, _, hi, by omega, hia, by omega, rfl, rfl, grownBy_trans HG.out HG'.out, HR'.out, fun x => ?_⟩, by simp [intOf]; omega⟩
      rw [← HEQ.out x, ← e1, ← e2, ← e4, ← e3, ro_lt (by omega) he]
end Go.Proofs.Ybulkdsao
