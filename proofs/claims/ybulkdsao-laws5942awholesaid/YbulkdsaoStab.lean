/-
  Plain: blocks and their merges. The walk of stableCmpFunc (28), SortStableFunc (11).
-/
import Derived.Test.YbulkdsaoMerge3
namespace Go.Proofs.Ybulkdsao
open Go.ChangeShapes Go.WideShapes Go.ChangeAt Go.RowKit Go.Sort
set_option linter.unusedVariables false

/-- The blocks of size bs from place lo on are sorted; what lies before a block's border lies before it in O. -/
structure Blk (O : It → It → Prop) (n bs lo : Nat) (d : Nat → It) : Prop where
  s : ∀ p, lo ≤ p * bs → Srt O d (p * bs) (min (p * bs + bs) n)
  c : ∀ p, lo ≤ p * bs → Crs O d 0 (p * bs) n

theorem crs_keep {O : It → It → Prop} {d d' : Nat → It} {a b x n : Nat} (h : Crs O d 0 x n) (hs : Same a b d d') (hx : x ≤ a ∨ b ≤ x) (hb : b ≤ n) : Crs O d' 0 x n := fun i j i1 i2 i3 i4 => by
  have hi : ∃ i', i' < x ∧ d' i = d i' := by
    by_cases c : a ≤ i ∧ i < b
    · obtain ⟨l, l1, l2, l3⟩ := hs.fwd i c.1 c.2
      exact ⟨l, by omega, l3⟩
    · exact ⟨i, i2, hs.out i c⟩
  have hj : ∃ j', x ≤ j' ∧ j' < n ∧ d' j = d j' := by
    by_cases c : a ≤ j ∧ j < b
    · obtain ⟨l, l1, l2, l3⟩ := hs.fwd j c.1 c.2
      exact ⟨l, by omega, by omega, l3⟩
    · exact ⟨j, i3, i4, hs.out j c⟩
  obtain ⟨i', p1, p2⟩ := hi
  obtain ⟨j', q1, q2, q3⟩ := hj
  rw [p2, q3]
  exact h i' j' (Nat.zero_le _) p1 q1 q2

/-- Halfway through a pass: the first k blocks of twice the size are sorted. -/
structure Half (O : It → It → Prop) (n bs k : Nat) (d : Nat → It) : Prop where
  s2 : ∀ q, q < k → Srt O d (q * (2 * bs)) (q * (2 * bs) + 2 * bs)
  c2 : ∀ q, q ≤ k → Crs O d 0 (q * (2 * bs)) n
  b : Blk O n bs (k * (2 * bs)) d

theorem Half.start {O : It → It → Prop} {n bs : Nat} {d : Nat → It} (h : Blk O n bs 0 d) : Half O n bs 0 d :=
  ⟨fun q hq => by omega, fun q hq => by
    have : q = 0 := by omega
    subst this
    intro i j i1 i2; omega, by rw [Nat.zero_mul]; exact h⟩

theorem mul2 (k bs : Nat) : k * (2 * bs) = 2 * k * bs := by rw [← Nat.mul_assoc, Nat.mul_comm k 2]

theorem Half.pre {O : It → It → Prop} {n bs k : Nat} {d : Nat → It} (h : Half O n bs k d) (hb : k * (2 * bs) + bs ≤ n) :
    Srt O d (k * (2 * bs)) (k * (2 * bs) + bs) ∧ Srt O d (k * (2 * bs) + bs) (min (k * (2 * bs) + 2 * bs) n) ∧ Crs O d (k * (2 * bs)) (k * (2 * bs) + bs) n := by
  have e1 : k * (2 * bs) = 2 * k * bs := mul2 k bs
  have e2 : (2 * k + 1) * bs = k * (2 * bs) + bs := by rw [Nat.succ_mul, e1]
  have h1 := h.b.s (2 * k) (by omega)
  have h2 := h.b.s (2 * k + 1) (by omega)
  have h3 := h.b.c (2 * k + 1) (by omega)
  rw [← e1] at h1
  rw [e2] at h2 h3
  refine ⟨fun i j i1 i2 i3 => h1 i j i1 i2 (by omega), fun i j i1 i2 i3 => h2 i j i1 i2 (by omega), fun i j i1 i2 i3 i4 => h3 i j (Nat.zero_le _) i2 i3 i4⟩

theorem Half.step {O : It → It → Prop} {n bs k : Nat} {d d' : Nat → It} (h : Half O n bs k d) (hs : Same (k * (2 * bs)) (k * (2 * bs) + 2 * bs) d d') (ht : Srt O d' (k * (2 * bs)) (k * (2 * bs) + 2 * bs)) (hb : k * (2 * bs) + 2 * bs ≤ n) : Half O n bs (k + 1) d' := by
  have e1 : (k + 1) * (2 * bs) = k * (2 * bs) + 2 * bs := Nat.succ_mul _ _
  refine ⟨fun q hq => ?_, fun q hq => ?_, ⟨fun p hp => ?_, fun p hp => ?_⟩⟩
  · by_cases c : q = k
    · subst c; exact ht
    · have m : (q + 1) * (2 * bs) ≤ k * (2 * bs) := Nat.mul_le_mul_right _ (by omega)
      rw [Nat.succ_mul] at m
      exact srt_same (h.s2 q (by omega)) hs (.inl m)
  · by_cases c : q = k + 1
    · subst c
      rw [e1]
      have := h.b.c (2 * k + 2) (by rw [show (2 * k + 2) * bs = k * (2 * bs) + 2 * bs by rw [Nat.add_mul, mul2]]; omega)
      rw [show (2 * k + 2) * bs = k * (2 * bs) + 2 * bs by rw [Nat.add_mul, mul2]] at this
      exact crs_keep this hs (.inr (Nat.le_refl _)) hb
    · have m : q * (2 * bs) ≤ k * (2 * bs) := Nat.mul_le_mul_right _ (by omega)
      exact crs_keep (h.c2 q (by omega)) hs (.inl m) hb
  · exact srt_same (h.b.s p (by omega)) hs (.inr (by omega))
  · exact crs_keep (h.b.c p (by omega)) hs (.inr (by omega)) hb

/-- Behind the pass, where one block or less is left. -/
theorem Half.fin1 {O : It → It → Prop} {n bs k : Nat} {d : Nat → It} (h : Half O n bs k d) (hbs : 0 < bs) (hb : n ≤ k * (2 * bs) + bs) (hk : k * (2 * bs) ≤ n) : Blk O n (2 * bs) 0 d := by
  refine ⟨fun p _ => ?_, fun p _ => ?_⟩
  · by_cases c : p < k
    · exact fun i j i1 i2 i3 => h.s2 p c i j i1 i2 (by omega)
    · by_cases c2 : p = k
      · subst c2
        have := h.b.s (2 * p) (by rw [mul2]; exact Nat.le_refl _)
        rw [← mul2] at this
        exact fun i j i1 i2 i3 => this i j i1 i2 (by omega)
      · have m : (k + 1) * (2 * bs) ≤ p * (2 * bs) := Nat.mul_le_mul_right _ (by omega)
        rw [Nat.succ_mul] at m
        exact fun i j i1 i2 i3 => by omega
  · by_cases c : p ≤ k
    · exact h.c2 p c
    · have m : (k + 1) * (2 * bs) ≤ p * (2 * bs) := Nat.mul_le_mul_right _ (by omega)
      rw [Nat.succ_mul] at m
      exact fun i j i1 i2 i3 i4 => by omega
/-- .. and where there was one merge more. -/
theorem Half.fin2 {O : It → It → Prop} {n bs k : Nat} {d d' : Nat → It} (h : Half O n bs k d) (hbs : 0 < bs) (hb : n < k * (2 * bs) + 2 * bs) (hk : k * (2 * bs) ≤ n) (hs : Same (k * (2 * bs)) n d d') (ht : Srt O d' (k * (2 * bs)) n) : Blk O n (2 * bs) 0 d' := by
  refine ⟨fun p _ => ?_, fun p _ => ?_⟩
  · by_cases c : p < k
    · have m : (p + 1) * (2 * bs) ≤ k * (2 * bs) := Nat.mul_le_mul_right _ (by omega)
      rw [Nat.succ_mul] at m
      exact fun i j i1 i2 i3 => srt_same (h.s2 p c) hs (.inl m) i j i1 i2 (by omega)
    · by_cases c2 : p = k
      · subst c2
        exact fun i j i1 i2 i3 => ht i j i1 i2 (by omega)
      · have m : (k + 1) * (2 * bs) ≤ p * (2 * bs) := Nat.mul_le_mul_right _ (by omega)
        rw [Nat.succ_mul] at m
        exact fun i j i1 i2 i3 => by omega
  · by_cases c : p ≤ k
    · have m : p * (2 * bs) ≤ k * (2 * bs) := Nat.mul_le_mul_right _ (by omega)
      exact crs_keep (h.c2 p c) hs (.inl m) (Nat.le_refl _)
    · have m : (k + 1) * (2 * bs) ≤ p * (2 * bs) := Nat.mul_le_mul_right _ (by omega)
      rw [Nat.succ_mul] at m
      exact fun i j i1 i2 i3 i4 => by omega
/-- One block holds all. -/
theorem Blk.whole {O : It → It → Prop} {n bs : Nat} {d : Nat → It} (h : Blk O n bs 0 d) (hb : n ≤ bs) : Srt O d 0 n := by
  have := h.s 0 (Nat.zero_le _)
  rw [Nat.zero_mul, Nat.zero_add, Nat.min_eq_right hb] at this
  exact this

/-- The first pass: the first k blocks of 20 are sorted; the rest is as it was. -/
structure Firsts (O : It → It → Prop) (n k : Nat) (d0 d : Nat → It) : Prop where
  s : ∀ q, q < k → Srt O d (q * 20) (q * 20 + 20)
  c : ∀ q, q ≤ k → Crs O d 0 (q * 20) n
  same : Same 0 (k * 20) d0 d
theorem Firsts.step {O : It → It → Prop} {n k : Nat} {d0 d d' : Nat → It} (h : Firsts O n k d0 d) (hord : ∀ i j, i < j → j < n → O (d0 i) (d0 j)) (hs : Same (k * 20) (k * 20 + 20) d d') (ht : Srt O d' (k * 20) (k * 20 + 20)) (hb : k * 20 + 20 ≤ n) : Firsts O n (k + 1) d0 d' := by
  have hsame : Same 0 (k * 20 + 20) d0 d' := (h.same.wide (Nat.le_refl _) (by omega)).trans (hs.wide (Nat.zero_le _) (Nat.le_refl _))
  refine ⟨fun q hq => ?_, fun q hq => ?_, by rw [Nat.succ_mul]; exact hsame⟩
  · by_cases c : q = k
    · subst c; exact ht
    · exact srt_same (h.s q (by omega)) hs (.inl (by omega))
  · by_cases c : q = k + 1
    · subst c
      rw [Nat.succ_mul]
      intro i j i1 i2 i3 i4
      obtain ⟨l, l1, l2, l3⟩ := hsame.fwd i (Nat.zero_le _) i2
      rw [l3, hsame.out j (by omega)]
      exact hord l j (by omega) i4
    · exact crs_keep (h.c q (by omega)) hs (.inl (by omega)) hb
theorem Firsts.fin {O : It → It → Prop} {n k : Nat} {d0 d d' : Nat → It} (h : Firsts O n k d0 d) (hord : ∀ i j, i < j → j < n → O (d0 i) (d0 j)) (hs : Same (k * 20) n d d') (ht : Srt O d' (k * 20) n) (hk : k * 20 ≤ n) (hb : n < k * 20 + 20) : Blk O n 20 0 d' := by
  refine ⟨fun p _ => ?_, fun p _ => ?_⟩
  · by_cases c : p < k
    · exact fun i j i1 i2 i3 => srt_same (h.s p c) hs (.inl (by omega)) i j i1 i2 (by omega)
    · by_cases c2 : p = k
      · subst c2
        exact fun i j i1 i2 i3 => ht i j i1 i2 (by omega)
      · exact fun i j i1 i2 i3 => by omega
  · by_cases c : p ≤ k
    · exact crs_keep (h.c p c) hs (.inl (by omega)) (Nat.le_refl _)
    · exact fun i j i1 i2 i3 i4 => by omega
end Go.Proofs.Ybulkdsao
