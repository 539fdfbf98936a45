/-
  Plain: rows of items, their order, what a stable sort keeps.
-/
import Derived.Test.YbulkdsaoRot
namespace Go.Proofs.Ybulkdsao
set_option linter.unusedVariables false

/-- The order of the sort: the greater need first; O among those of equal need. -/
def T (O : It → It → Prop) (x y : It) : Prop := y.need < x.need ∨ (x.need = y.need ∧ O x y)

theorem T.trans {O : It → It → Prop} (hO : ∀ x y z, O x y → O y z → O x z) {x y z : It} (h : T O x y) (k : T O y z) : T O x z := by
  rcases h with h | ⟨h, ho⟩ <;> rcases k with k | ⟨k, ko⟩
  · exact .inl (by omega)
  · exact .inl (by omega)
  · exact .inl (by omega)
  · exact .inr ⟨by omega, hO _ _ _ ho ko⟩
theorem cf_neg {x y : It} : cf x y < 0 ↔ y.need < x.need := by
  unfold cf
  split
  · rename_i h; exact ⟨fun _ => h, fun _ => by omega⟩
  · rename_i h
    split <;> exact ⟨fun h' => by omega, fun h' => absurd h' h⟩
theorem T.of_neg {O : It → It → Prop} {x y : It} (h : cf x y < 0) : T O x y := .inl (cf_neg.1 h)
theorem T.of_not {O : It → It → Prop} {x y : It} (h : ¬ cf y x < 0) (ho : O x y) : T O x y := by
  rw [cf_neg] at h
  rcases Int.lt_or_eq_of_le (show y.need ≤ x.need by omega) with h' | h'
  · exact .inl h'
  · exact .inr ⟨h'.symm, ho⟩

/-- The same items in places a to b; all else as it was. -/
structure Same (a b : Nat) (d d' : Nat → It) : Prop where
  out : ∀ j, ¬ (a ≤ j ∧ j < b) → d' j = d j
  fwd : ∀ i, a ≤ i → i < b → ∃ j, a ≤ j ∧ j < b ∧ d' i = d j
  bwd : ∀ i, a ≤ i → i < b → ∃ j, a ≤ j ∧ j < b ∧ d i = d' j

theorem Same.refl (a b : Nat) (d : Nat → It) : Same a b d d := ⟨fun _ _ => rfl, fun i h1 h2 => ⟨i, h1, h2, rfl⟩, fun i h1 h2 => ⟨i, h1, h2, rfl⟩⟩
theorem Same.trans {a b : Nat} {d d' d'' : Nat → It} (h : Same a b d d') (k : Same a b d' d'') : Same a b d d'' := by
  refine ⟨fun j hj => (k.out j hj).trans (h.out j hj), fun i h1 h2 => ?_, fun i h1 h2 => ?_⟩
  · obtain ⟨j, j1, j2, e⟩ := k.fwd i h1 h2
    obtain ⟨l, l1, l2, f⟩ := h.fwd j j1 j2
    exact ⟨l, l1, l2, e.trans f⟩
  · obtain ⟨j, j1, j2, e⟩ := h.bwd i h1 h2
    obtain ⟨l, l1, l2, f⟩ := k.bwd j j1 j2
    exact ⟨l, l1, l2, e.trans f⟩
theorem Same.wide {a b a' b' : Nat} {d d' : Nat → It} (h : Same a b d d') (ha : a' ≤ a) (hb : b ≤ b') : Same a' b' d d' := by
  refine ⟨fun j hj => h.out j (by omega), fun i h1 h2 => ?_, fun i h1 h2 => ?_⟩
  · by_cases c : a ≤ i ∧ i < b
    · obtain ⟨j, j1, j2, e⟩ := h.fwd i c.1 c.2
      exact ⟨j, by omega, by omega, e⟩
    · exact ⟨i, h1, h2, h.out i c⟩
  · by_cases c : a ≤ i ∧ i < b
    · obtain ⟨j, j1, j2, e⟩ := h.bwd i c.1 c.2
      exact ⟨j, by omega, by omega, e⟩
    · exact ⟨i, h1, h2, (h.out i c).symm⟩
/-- By a map of the places and the map back. -/
theorem Same.of_map {a b : Nat} {d : Nat → It} (f g : Nat → Nat) (hf : ∀ j, ¬ (a ≤ j ∧ j < b) → f j = j) (hf1 : ∀ j, a ≤ j → j < b → a ≤ f j ∧ f j < b) (hg1 : ∀ j, a ≤ j → j < b → a ≤ g j ∧ g j < b ∧ f (g j) = j) :
    Same a b d (fun j => d (f j)) :=
  ⟨fun j hj => by show d (f j) = d j; rw [hf j hj], fun i h1 h2 => ⟨f i, (hf1 i h1 h2).1, (hf1 i h1 h2).2, rfl⟩, fun i h1 h2 => ⟨g i, (hg1 i h1 h2).1, (hg1 i h1 h2).2.1, by show d i = d (f (g i)); rw [(hg1 i h1 h2).2.2]⟩⟩

def Srt (O : It → It → Prop) (d : Nat → It) (a b : Nat) : Prop := ∀ i j, a ≤ i → i < j → j < b → T O (d i) (d j)
def Crs (O : It → It → Prop) (d : Nat → It) (a m b : Nat) : Prop := ∀ i j, a ≤ i → i < m → m ≤ j → j < b → O (d i) (d j)

/-- Item i moved to place j. -/
def insI (i j p : Nat) : Nat := if p < j then p else if p = j then i else if p ≤ i then p - 1 else p
theorem ins_same {a i j : Nat} (d : Nat → It) (h1 : a ≤ j) (h2 : j ≤ i) : Same a (i + 1) d (fun p => d (insI i j p)) := by
  refine Same.of_map (insI i j) (fun p => if p < j then p else if p = i then j else if p < i then p + 1 else p) (fun p hp => ?_) (fun p h3 h4 => ?_) (fun p h3 h4 => ?_)
  · simp only [insI]; repeat' split
    all_goals omega
  · simp only [insI]; repeat' split
    all_goals omega
  · refine ⟨?_, ?_, ?_⟩
    · repeat' split
      all_goals omega
    · repeat' split
      all_goals omega
    · simp only [insI]
      repeat' split
      all_goals omega
theorem ins_start (i p : Nat) : insI i i p = p := by simp only [insI]; repeat' split
                                                     all_goals omega
theorem ins_at (i j : Nat) : insI i j j = i := by unfold insI; rw [if_neg (by omega), if_pos rfl]
theorem ins_below (i : Nat) {j p : Nat} (h : p < j) : insI i j p = p := by simp only [insI]; rw [if_pos h]
theorem ins_above {i j p : Nat} (h : j < p) (h2 : p ≤ i) : insI i j p = p - 1 := by simp only [insI]; rw [if_neg (by omega), if_neg (by omega), if_pos h2]
theorem ins_beyond {i j p : Nat} (h : i < p) (h2 : j ≤ i) : insI i j p = p := by simp only [insI]; rw [if_neg (by omega), if_neg (by omega), if_neg (by omega)]
theorem ins_step (d : Nat → It) (i j : Nat) (h1 : 0 < j) (h2 : j ≤ i) : swp (fun p => d (insI i j p)) j (j - 1) = fun p => d (insI i (j - 1) p) := by
  funext p
  simp only [swp, upd]
  by_cases e1 : p = j - 1
  · rw [if_pos e1, e1, ins_at, ins_at]
  · rw [if_neg e1]
    by_cases e2 : p = j
    · rw [if_pos e2, e2, ins_below i (show j - 1 < j by omega), ins_above (show j - 1 < j by omega) h2]
    · rw [if_neg e2]
      by_cases e3 : p < j
      · rw [ins_below i e3, ins_below i (show p < j - 1 by omega)]
      · by_cases e4 : p ≤ i
        · rw [ins_above (show j < p by omega) e4, ins_above (show j - 1 < p by omega) e4]
        · rw [ins_beyond (by omega) h2, ins_beyond (by omega) (by omega)]
theorem ins_srt {O : It → It → Prop} (hO : ∀ x y z, O x y → O y z → O x z) {d : Nat → It} {a i j : Nat} (h1 : a ≤ j) (h2 : j ≤ i) (hs : Srt O d a i) (hhi : ∀ p, j ≤ p → p < i → T O (d i) (d p)) (hlo : a < j → T O (d (j - 1)) (d i)) :
    Srt O (fun p => d (insI i j p)) a (i + 1) := by
  have hlo' : ∀ p, a ≤ p → p < j → T O (d p) (d i) := fun p hp hpj => by
    by_cases e : p = j - 1
    · subst e; exact hlo (by omega)
    · exact (hs p (j - 1) hp (by omega) (by omega)).trans hO (hlo (by omega))
  intro p q hp hpq hq
  show T O (d (insI i j p)) (d (insI i j q))
  by_cases c1 : p < j
  · rw [show insI i j p = p by simp only [insI]; rw [if_pos c1]]
    by_cases c2 : q < j
    · rw [show insI i j q = q by simp only [insI]; rw [if_pos c2]]
      exact hs p q hp hpq (by omega)
    · by_cases c3 : q = j
      · rw [show insI i j q = i by simp only [insI]; rw [if_neg c2, if_pos c3]]
        exact hlo' p hp c1
      · rw [show insI i j q = q - 1 by simp only [insI]; rw [if_neg c2, if_neg c3, if_pos (by omega)]]
        exact hs p (q - 1) hp (by omega) (by omega)
  · rw [show insI i j q = q - 1 by simp only [insI]; rw [if_neg (by omega), if_neg (by omega), if_pos (by omega)]]
    by_cases c3 : p = j
    · rw [show insI i j p = i by simp only [insI]; rw [if_neg c1, if_pos c3]]
      exact hhi (q - 1) (by omega) (by omega)
    · rw [show insI i j p = p - 1 by simp only [insI]; rw [if_neg c1, if_neg c3, if_pos (by omega)]]
      exact hs (p - 1) (q - 1) (by omega) (by omega) (by omega)
end Go.Proofs.Ybulkdsao
