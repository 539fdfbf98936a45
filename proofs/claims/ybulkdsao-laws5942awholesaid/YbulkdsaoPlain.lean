/-
  Plain: what the iterator visits is the model's items, sorted.
-/
import Derived.Test.YbulkdsaoStab
namespace Go.Proofs.Ybulkdsao
set_option linter.unusedVariables false

/-- Viewer i's units from byte a on. -/
def us (E : Pd) (D : Vd) (sg sz ah : Int) (i : Nat) : Nat → Int → List (Int × Int)
  | 0, _ => []
  | f + 1, a => match headL E sg sz ah (D.pos i) a 0 with
    | none => []
    | some u => u :: us E D sg sz ah i f u.2

def itOf (D : Vd) (sg : Int) (u : Nat × Int × Int) : It := ⟨u.2.1, u.2.2, need D sg u.2.1 u.1, u.1⟩

/-- All that the iterator visits, owned or not. -/
def vis (E : Pd) (D : Vd) (sg sz ah : Int) : Nat → (Nat → Int) → List (Nat × Int × Int)
  | 0, _ => []
  | f + 1, a => match best E D sg sz ah a D.nv with
    | none => []
    | some u => u :: vis E D sg sz ah f (setA a u.1 u.2.2)

theorem outs_vis (E : Pd) (D : Vd) (sg sz ah : Int) : ∀ f a, outs E D sg sz ah f a = (vis E D sg sz ah f a).filter (fun u => decide (ownTo D sg sz ah u.2.1 D.nv = some u.1))
  | 0, a => rfl
  | f + 1, a => by
    simp only [outs, vis]
    cases hb : best E D sg sz ah a D.nv with
    | none => rfl
    | some u =>
      obtain ⟨j, x, e⟩ := u
      simp only [List.filter_cons]
      by_cases c : ownTo D sg sz ah x D.nv = some j
      · rw [if_pos c, if_pos (by simpa using c), outs_vis E D sg sz ah f]
      · rw [if_neg c, if_neg (by simpa using c), outs_vis E D sg sz ah f]

section
variable {E : Pd} {D : Vd} {sg sz ah : Int} (hb : Bds sg sz) (hE : E.Ok sz)
include hb hE

theorem us_fuel (i : Nat) : ∀ f g a, 0 ≤ a → (sz - a).toNat < f → (sz - a).toNat < g → us E D sg sz ah i f a = us E D sg sz ah i g a
  | 0, _, _, _, h, _ => by omega
  | _, 0, _, _, _, h => by omega
  | f + 1, g + 1, a, ha, h1, h2 => by
    simp only [us]
    cases hh : headL E sg sz ah (D.pos i) a 0 with
    | none => rfl
    | some u =>
      obtain ⟨x, e⟩ := u
      obtain ⟨b0, b1, b2, b3, b4⟩ := headL_bd hb hE ha hh
      simp only
      rw [us_fuel i f g e (by omega) (by omega) (by omega)]

/-- A viewer's units go on, and their needs do not rise. -/
theorem us_lo (i : Nat) : ∀ f a, 0 ≤ a → ∀ u ∈ us E D sg sz ah i f a, a ≤ u.1 ∧ 0 ≤ u.1 ∧ u.1 < u.2 ∧ u.2 ≤ sz
  | 0, a, ha, u, hu => by cases hu
  | f + 1, a, ha, u, hu => by
    simp only [us] at hu
    cases hh : headL E sg sz ah (D.pos i) a 0 with
    | none => rw [hh] at hu; cases hu
    | some v =>
      obtain ⟨x, e⟩ := v
      obtain ⟨b0, b1, b2, b3, b4⟩ := headL_bd hb hE ha hh
      rw [hh] at hu
      rcases List.mem_cons.1 hu with rfl | hu
      · exact ⟨b1, b0, b2, b3⟩
      · have := us_lo i f e (by omega) u hu
        exact ⟨by omega, this.2.1, this.2.2.1, this.2.2.2⟩
end

theorem need_mono {D : Vd} {sg sz : Int} (hb : Bds sg sz) (i : Nat) {x y : Int} (h : x ≤ y) : need D sg y i ≤ need D sg x i := by
  have g := hb.g0
  have h1 : x / sg ≤ y / sg := Int.ediv_le_ediv (by omega) h
  have h2 : (x / sg - D.st i) * sg ≤ (y / sg - D.st i) * sg := Int.mul_le_mul_of_nonneg_right (by omega) (by omega)
  unfold need needL
  omega

/-- The order of the model's list: viewer by viewer, byte by byte. -/
def Ord (x y : It) : Prop := x.vi < y.vi ∨ (x.vi = y.vi ∧ x.a < y.a)
theorem Ord.trans : ∀ x y z, Ord x y → Ord y z → Ord x z := fun x y z h k => by
  unfold Ord at *
  omega
theorem T_irrefl (x : It) : ¬ T Ord x x := by
  unfold T Ord
  omega
theorem T_asymm {x y : It} (h : T Ord x y) (k : T Ord y x) : False := T_irrefl x (h.trans Ord.trans k)

/-- The best is the first of the greatest need. -/
theorem best_max {E : Pd} {D : Vd} {sg sz ah : Int} {a : Nat → Int} : ∀ {k j : Nat} {x e : Int}, best E D sg sz ah a k = some (j, x, e) → ∀ i y f, i < k → hd E D sg sz ah a i = some (y, f) →
    need D sg y i ≤ need D sg x j ∧ (i < j → need D sg y i < need D sg x j)
  | 0, _, _, _, h => by cases h
  | k + 1, j, x, e, h => by
    intro i y f hi hy
    simp only [best] at h
    split at h
    · rename_i hn
      have : i ≠ k := fun c => by subst c; rw [hn] at hy; cases hy
      exact best_max h i y f (by omega) hy
    · rename_i x' e' hh
      split at h
      · rename_i hb
        simp only [Option.some.injEq, Prod.mk.injEq] at h
        obtain ⟨rfl, rfl, rfl⟩ := h
        by_cases c : i = k
        · subst c; rw [hh] at hy; cases hy; exact ⟨Int.le_refl _, fun h => by omega⟩
        · exact absurd hb (best_some (by omega) hy)
      · rename_i j' y' f' hb
        have bs := best_spec hb
        split at h
        · rename_i hlt
          simp only [Option.some.injEq, Prod.mk.injEq] at h
          obtain ⟨rfl, rfl, rfl⟩ := h
          by_cases c : i = k
          · subst c; rw [hh] at hy; cases hy; exact ⟨Int.le_refl _, fun h => by omega⟩
          · have := best_max hb i y f (by omega) hy
            exact ⟨by omega, fun _ => by omega⟩
        · rename_i hlt
          simp only [Option.some.injEq, Prod.mk.injEq] at h
          obtain ⟨rfl, rfl, rfl⟩ := h
          by_cases c : i = k
          · subst c; rw [hh] at hy; cases hy; exact ⟨by omega, fun h => by omega⟩
          · exact best_max hb i y f (by omega) hy
where
  best_some {E : Pd} {D : Vd} {sg sz ah : Int} {a : Nat → Int} : ∀ {k i : Nat} {u : Int × Int}, i < k → hd E D sg sz ah a i = some u → best E D sg sz ah a k ≠ none
    | k + 1, i, u, hi, hu => by
      simp only [best]
      by_cases c : i = k
      · subst c
        rw [hu]
        obtain ⟨x, e⟩ := u
        simp only
        split
        · simp
        · split <;> simp
      · have ih := best_some (k := k) (by omega) hu
        split
        · exact ih
        · split
          · simp
          · split <;> simp
end Go.Proofs.Ybulkdsao
