/-
  Plain: the model's items, and their sorted row.
-/
import Derived.Test.YbulkdsaoVis
namespace Go.Proofs.Ybulkdsao
set_option linter.unusedVariables false

/-- Viewer i's items. -/
def usOf (E : Pd) (D : Vd) (sg sz ah : Int) (i : Nat) : List (Int × Int) := us E D sg sz ah i ((sz - offL sg sz (D.pos i)).toNat + 1) (offL sg sz (D.pos i))
def itemsOf (E : Pd) (D : Vd) (sg sz ah : Int) (i : Nat) : List It := (usOf E D sg sz ah i).map fun u => itOf D sg (i, u)
/-- The items of the first k viewers. -/
def itemsTo (E : Pd) (D : Vd) (sg sz ah : Int) : Nat → List It
  | 0 => []
  | k + 1 => itemsTo E D sg sz ah k ++ itemsOf E D sg sz ah k

theorem mem_itemsTo {E : Pd} {D : Vd} {sg sz ah : Int} : ∀ {k : Nat} {y : It}, y ∈ itemsTo E D sg sz ah k ↔ ∃ u : Nat × Int × Int, u.1 < k ∧ u.2 ∈ usOf E D sg sz ah u.1 ∧ itOf D sg u = y
  | 0, y => by
    constructor
    · intro h; cases h
    · rintro ⟨u, h, _⟩; omega
  | k + 1, y => by
    simp only [itemsTo, List.mem_append, mem_itemsTo (k := k), itemsOf, List.mem_map]
    constructor
    · rintro (⟨u, h1, h2, h3⟩ | ⟨u, h1, h2⟩)
      · exact ⟨u, by omega, h2, h3⟩
      · exact ⟨(k, u), by show k < k + 1; omega, h1, h2⟩
    · rintro ⟨u, h1, h2, h3⟩
      by_cases c : u.1 = k
      · refine .inr ⟨u.2, by rw [← c]; exact h2, ?_⟩
        rw [← h3, ← c]
      · exact .inl ⟨u, by omega, h2, h3⟩

section
variable {E : Pd} {D : Vd} {sg sz ah : Int} (hb : Bds sg sz) (hE : E.Ok sz)
include hb hE

theorem us_incr (i : Nat) : ∀ f a, 0 ≤ a → (us E D sg sz ah i f a).Pairwise (fun u v => u.1 < v.1)
  | 0, a, ha => List.Pairwise.nil
  | f + 1, a, ha => by
    simp only [us]
    cases hh : headL E sg sz ah (D.pos i) a 0 with
    | none => exact List.Pairwise.nil
    | some u =>
      obtain ⟨x, e⟩ := u
      obtain ⟨b0, b1, b2, b3, b4⟩ := headL_bd hb hE ha hh
      simp only
      refine List.Pairwise.cons (fun v hv => ?_) (us_incr i f e (by omega))
      have := us_lo hb hE i f e (by omega) v hv
      show x < v.1
      omega

theorem itemsOf_ord (i : Nat) (ho : 0 ≤ offL sg sz (D.pos i)) : (itemsOf E D sg sz ah i).Pairwise Ord := by
  unfold itemsOf
  rw [List.pairwise_map]
  exact (us_incr hb hE i _ _ ho).imp fun h => .inr ⟨rfl, h⟩

theorem itemsTo_ord : ∀ k, (∀ i, i < k → 0 ≤ offL sg sz (D.pos i)) → (itemsTo E D sg sz ah k).Pairwise Ord
  | 0, _ => List.Pairwise.nil
  | k + 1, ho => by
    simp only [itemsTo]
    rw [List.pairwise_append]
    refine ⟨itemsTo_ord k (fun i hi => ho i (by omega)), itemsOf_ord hb hE k (ho k (by omega)), fun x hx y hy => ?_⟩
    obtain ⟨u, h1, _, rfl⟩ := mem_itemsTo.1 hx
    unfold itemsOf at hy
    obtain ⟨v, _, rfl⟩ := List.mem_map.1 hy
    left
    show (u.1 : Int) < (k : Int)
    omega

/-- The sorted row is what the iterator visits. -/
theorem sorted_vis (ho : ∀ i, i < D.nv → 0 ≤ offL sg sz (D.pos i)) {d d' : Nat → It} (hd : ∀ i (h : i < (itemsTo E D sg sz ah D.nv).length), d i = (itemsTo E D sg sz ah D.nv)[i])
    (hs : Same 0 (itemsTo E D sg sz ah D.nv).length d d') (ht : Srt Ord d' 0 (itemsTo E D sg sz ah D.nv).length) :
    (List.range (itemsTo E D sg sz ah D.nv).length).map d' = (vis E D sg sz ah (left sz (fun j => offL sg sz (D.pos j)) D.nv + 1) (fun j => offL sg sz (D.pos j))).map (itOf D sg) := by
  refine sorted_unique ?_ (vis_sorted hb hE _ _ ho (by omega)) fun y => ?_
  · rw [List.pairwise_map]
    refine List.Pairwise.imp_of_mem (R := (· < ·)) (fun {p q} hp hq h => ht p q (Nat.zero_le _) h (List.mem_range.1 hq)) List.pairwise_lt_range
  · constructor
    · intro h
      obtain ⟨i, hi, rfl⟩ := List.mem_map.1 h
      obtain ⟨l, l1, l2, l3⟩ := hs.fwd i (Nat.zero_le _) (List.mem_range.1 hi)
      rw [l3, hd l l2]
      obtain ⟨u, h1, h2, h3⟩ := mem_itemsTo.1 (List.getElem_mem l2)
      exact List.mem_map.2 ⟨u, (vis_mem hb hE _ _ ho (by omega) u).2 ⟨h1, h2⟩, h3⟩
    · intro h
      obtain ⟨u, h1, h2⟩ := List.mem_map.1 h
      have h3 := (vis_mem hb hE _ _ ho (by omega) u).1 h1
      have h4 : y ∈ itemsTo E D sg sz ah D.nv := mem_itemsTo.2 ⟨u, h3.1, h3.2, h2⟩
      obtain ⟨i, hi, h5⟩ := List.mem_iff_getElem.1 h4
      obtain ⟨l, l1, l2, l3⟩ := hs.bwd i (Nat.zero_le _) hi
      exact List.mem_map.2 ⟨l, List.mem_range.2 l2, by rw [← l3, hd i hi, h5]⟩
end
end Go.Proofs.Ybulkdsao
