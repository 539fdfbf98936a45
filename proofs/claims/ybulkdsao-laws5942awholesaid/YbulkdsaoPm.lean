/-
  Plain: the model's two inner loops walk a viewer's units.
-/
import Derived.Test.YbulkdsaoItems
namespace Go.Proofs.Ybulkdsao
set_option linter.unusedVariables false

/-- Viewer i's units from byte a on. -/
def usR (E : Pd) (D : Vd) (sg sz ah : Int) (i : Nat) (a : Int) : List (Int × Int) := us E D sg sz ah i ((sz - a).toNat + 1) a

theorem usR_none {E : Pd} {D : Vd} {sg sz ah : Int} {i : Nat} {a : Int} (h : headL E sg sz ah (D.pos i) a 0 = none) : usR E D sg sz ah i a = [] := by
  unfold usR
  simp only [us, h]
theorem adv_at {E : Pd} {k : Nat} {a : Int} (hk : k < E.np) (h1 : a < E.pe k) (h2 : ∀ j, j < k → E.pe j ≤ a) : adv E a 0 = k := by
  have := adv_skip (E := E) (a := a) k 0 (by omega) (fun j _ hj => h2 j (by omega))
  rw [this, Nat.zero_add]
  exact adv_stop (by omega)

section
variable {E : Pd} {D : Vd} {sg sz ah : Int} (hb : Bds sg sz) (hE : E.Ok sz)
include hb hE

theorem usR_some {i : Nat} {a x e : Int} (ha : 0 ≤ a) (h : headL E sg sz ah (D.pos i) a 0 = some (x, e)) : usR E D sg sz ah i a = (x, e) :: usR E D sg sz ah i e := us_cons hb hE ha h

theorem usR_start {i k : Nat} {a a' : Int} (hk : k < E.np) (ha : 0 ≤ a) (h1 : a < E.pe k) (h2 : ∀ j, j < k → E.pe j ≤ a) (h3 : a' = if a < E.ps k then E.ps k else a) : usR E D sg sz ah i a = usR E D sg sz ah i a' := by
  have hse := hE.se k hk
  have hs0 := hE.s0 k hk
  have hp : a ≤ a' ∧ a' < E.pe k ∧ E.ps k ≤ a' ∧ 0 ≤ a' := by rw [h3]; split <;> omega
  have hh : headL E sg sz ah (D.pos i) a 0 = headL E sg sz ah (D.pos i) a' 0 := by
    unfold headL
    rw [adv_at hk h1 h2, adv_at hk hp.2.1 (fun j hj => by have := h2 j hj; omega)]
    simp only [if_pos hk]
    rw [if_neg (show ¬ a' < E.ps k by omega), ← h3]
  cases h : headL E sg sz ah (D.pos i) a 0 with
  | none => rw [usR_none h, usR_none (hh ▸ h)]
  | some u =>
    obtain ⟨x, e⟩ := u
    rw [usR_some hb hE ha h, usR_some hb hE hp.2.2.2 (hh ▸ h)]

/-- The unit at byte a of span k. -/
def unitE (E : Pd) (sg sz : Int) (k : Nat) (a : Int) : Int := if E.pe k ≤ bndL sg sz a then E.pe k else bndL sg sz a

theorem usR_go {i k : Nat} {a : Int} (hk : k < E.np) (ha : 0 ≤ a) (h0 : E.ps k ≤ a) (h1 : a < E.pe k) (h2 : ∀ j, j < k → E.pe j ≤ a) (hl : offL sg sz (D.pos i) ≤ a) (hh : a < offL sg sz (D.pos i) + ah) :
    usR E D sg sz ah i a = (a, unitE E sg sz k a) :: usR E D sg sz ah i (unitE E sg sz k a) := by
  refine usR_some hb hE ha ?_
  unfold headL
  rw [adv_at hk h1 h2]
  simp only [if_pos hk]
  rw [if_neg (show ¬ a < E.ps k by omega)]
  have : holdsL sg sz ah (D.pos i) a = true := by unfold holdsL; simp [hl, hh]
  rw [this]
  rfl
theorem unitE_bd {k : Nat} {a : Int} (hk : k < E.np) (ha : 0 ≤ a) (h1 : a < E.pe k) : a < unitE E sg sz k a ∧ unitE E sg sz k a ≤ E.pe k ∧ unitE E sg sz k a ≤ sz := by
  have h3 := hE.e1 k hk
  have hg := bndL_gt hb ha (show a < sz by omega)
  unfold unitE
  split <;> omega
end

theorem usR_stop {E : Pd} {D : Vd} {sg sz ah : Int} {i k : Nat} {a : Int} (hk : k < E.np) (ha : 0 ≤ a) (h0 : E.ps k ≤ a) (h1 : a < E.pe k) (h2 : ∀ j, j < k → E.pe j ≤ a) (hh : ¬ a < offL sg sz (D.pos i) + ah) : usR E D sg sz ah i a = [] := by
  refine usR_none ?_
  unfold headL
  rw [adv_at hk h1 h2]
  simp only [if_pos hk]
  rw [if_neg (show ¬ a < E.ps k by omega)]
  have : holdsL sg sz ah (D.pos i) a = false := by unfold holdsL; simp [hh]
  rw [this]
  rfl
theorem usR_end {E : Pd} {D : Vd} {sg sz ah : Int} {i : Nat} {a : Int} (h2 : ∀ j, j < E.np → E.pe j ≤ a) : usR E D sg sz ah i a = [] := by
  refine usR_none ?_
  have : adv E a 0 = E.np := by
    have := adv_skip (E := E) (a := a) E.np 0 (by omega) (fun j _ hj => h2 j (by omega))
    rw [this, Nat.zero_add]
    exact adv_stop (by omega)
  unfold headL
  simp only [this, Nat.lt_irrefl, if_false]

theorem us_len (E : Pd) (D : Vd) (sg sz ah : Int) (i : Nat) : ∀ f a, (us E D sg sz ah i f a).length ≤ f
  | 0, a => by simp [us]
  | f + 1, a => by
    simp only [us]
    split
    · simp
    · simp only [List.length_cons]
      exact Nat.succ_le_succ (us_len E D sg sz ah i f _)

theorem usOf_len {E : Pd} {D : Vd} {sg sz ah : Int} (hb : Bds sg sz) (i : Nat) (ho : 0 ≤ offL sg sz (D.pos i)) : (usOf E D sg sz ah i).length ≤ 257 := by
  have := us_len E D sg sz ah i ((sz - offL sg sz (D.pos i)).toNat + 1) (offL sg sz (D.pos i))
  have := hb.z1
  unfold usOf
  omega
theorem itemsTo_len {E : Pd} {D : Vd} {sg sz ah : Int} (hb : Bds sg sz) : ∀ k, (∀ i, i < k → 0 ≤ offL sg sz (D.pos i)) → (itemsTo E D sg sz ah k).length ≤ k * 257
  | 0, _ => by simp [itemsTo]
  | k + 1, ho => by
    have h1 := itemsTo_len (E := E) (ah := ah) hb k (fun i hi => ho i (by omega))
    have h2 := usOf_len (E := E) (ah := ah) hb k (ho k (by omega))
    simp only [itemsTo, List.length_append, itemsOf, List.length_map]
    rw [Nat.succ_mul]; omega

/-- The items' cells. -/
def itCells (y : It) : List Value := [.int .i64 y.a, .int .i64 y.e, .int .i64 y.need, .int .i64 y.vi]
def itsCells (L : List It) : List Value := L.flatMap itCells
theorem itsCells_append (L M : List It) : itsCells (L ++ M) = itsCells L ++ itsCells M := by simp [itsCells]
end Go.Proofs.Ybulkdsao
