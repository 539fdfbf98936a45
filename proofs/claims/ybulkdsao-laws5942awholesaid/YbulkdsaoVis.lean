/-
  Plain: what the iterator visits: its members, its order.
-/
import Derived.Test.YbulkdsaoPlain
namespace Go.Proofs.Ybulkdsao
set_option linter.unusedVariables false
section
variable {E : Pd} {D : Vd} {sg sz ah : Int} (hb : Bds sg sz) (hE : E.Ok sz)
include hb hE

theorem us_cons {i : Nat} {a x e : Int} (ha : 0 ≤ a) (h : headL E sg sz ah (D.pos i) a 0 = some (x, e)) : us E D sg sz ah i ((sz - a).toNat + 1) a = (x, e) :: us E D sg sz ah i ((sz - e).toNat + 1) e := by
  obtain ⟨b0, b1, b2, b3, b4⟩ := headL_bd hb hE ha h
  rw [us_fuel hb hE i ((sz - e).toNat + 1) (sz - a).toNat e (by omega) (by omega) (by omega)]
  simp only [us, h]

theorem vis_mem : ∀ f a, (∀ j, j < D.nv → 0 ≤ a j) → left sz a D.nv < f → ∀ u : Nat × Int × Int, u ∈ vis E D sg sz ah f a ↔ u.1 < D.nv ∧ u.2 ∈ us E D sg sz ah u.1 ((sz - a u.1).toNat + 1) (a u.1)
  | 0, a, _, h, u => by omega
  | f + 1, a, ha, h, u => by
    simp only [vis]
    cases hbb : best E D sg sz ah a D.nv with
    | none =>
      constructor
      · intro h; cases h
      rintro ⟨h1, h2⟩
      cases hh : headL E sg sz ah (D.pos u.1) (a u.1) 0 with
      | none => simp only [us, hh] at h2; cases h2
      | some v => exact absurd hbb (best_max.best_some h1 (show hd E D sg sz ah a u.1 = some v from hh))
    | some v =>
      obtain ⟨j, x, e⟩ := v
      obtain ⟨hj, hh⟩ := best_spec hbb
      have hh' : headL E sg sz ah (D.pos j) (a j) 0 = some (x, e) := hh
      obtain ⟨b0, b1, b2, b3, b4⟩ := headL_bd hb hE (ha j hj) hh'
      have ha' : ∀ i, i < D.nv → 0 ≤ setA a j e i := fun i hi => by
        have := ha i hi
        simp only [setA]; split <;> omega
      have ih := vis_mem f (setA a j e) ha' (by have := left_lt (sz := sz) (a := a) (j := j) (e := e) (by omega) (by omega) hj; omega) u
      simp only
      rw [List.mem_cons, ih]
      by_cases c : u.1 = j
      · have e1 : setA a j e u.1 = e := by simp only [setA]; rw [if_pos c]
        have e2 : us E D sg sz ah u.1 ((sz - a u.1).toNat + 1) (a u.1) = (x, e) :: us E D sg sz ah u.1 ((sz - e).toNat + 1) e := by
          rw [c]; exact us_cons hb hE (ha j hj) hh'
        rw [e1, e2, List.mem_cons]
        constructor
        · rintro (h1 | h1)
          · rw [h1]; exact ⟨hj, .inl rfl⟩
          · exact ⟨h1.1, .inr h1.2⟩
        · rintro ⟨h1, h2 | h2⟩
          · exact .inl (Prod.ext c h2)
          · exact .inr ⟨h1, h2⟩
      · have e1 : setA a j e u.1 = a u.1 := by simp only [setA]; rw [if_neg c]
        rw [e1]
        exact ⟨fun h => h.elim (fun h1 => absurd (by rw [h1]) c) id, .inr⟩

theorem vis_sorted : ∀ f a, (∀ j, j < D.nv → 0 ≤ a j) → left sz a D.nv < f → ((vis E D sg sz ah f a).map (itOf D sg)).Pairwise (T Ord)
  | 0, a, _, h => by omega
  | f + 1, a, ha, h => by
    simp only [vis]
    cases hbb : best E D sg sz ah a D.nv with
    | none => exact List.Pairwise.nil
    | some v =>
      obtain ⟨j, x, e⟩ := v
      obtain ⟨hj, hh⟩ := best_spec hbb
      have hh' : headL E sg sz ah (D.pos j) (a j) 0 = some (x, e) := hh
      obtain ⟨b0, b1, b2, b3, b4⟩ := headL_bd hb hE (ha j hj) hh'
      have ha' : ∀ i, i < D.nv → 0 ≤ setA a j e i := fun i hi => by
        have := ha i hi
        simp only [setA]; split <;> omega
      have hl : left sz (setA a j e) D.nv < f := by have := left_lt (sz := sz) (a := a) (j := j) (e := e) (by omega) (by omega) hj; omega
      simp only [List.map_cons]
      refine List.Pairwise.cons ?_ (vis_sorted f (setA a j e) ha' hl)
      intro y hy
      obtain ⟨u, hu, rfl⟩ := List.mem_map.1 hy
      obtain ⟨hu1, hu2⟩ := (vis_mem hb hE f (setA a j e) ha' hl u).1 hu
      by_cases c : u.1 = j
      · have e1 : setA a j e u.1 = e := by simp only [setA]; rw [if_pos c]
        rw [e1] at hu2
        have lo := us_lo hb hE u.1 _ e (by omega) u.2 hu2
        have nm := need_mono (D := D) hb j (show x ≤ u.2.1 by omega)
        unfold T Ord itOf
        simp only
        rw [c]
        omega
      · have e1 : setA a j e u.1 = a u.1 := by simp only [setA]; rw [if_neg c]
        rw [e1] at hu2
        cases hq : headL E sg sz ah (D.pos u.1) (a u.1) 0 with
        | none => simp only [us, hq] at hu2; cases hu2
        | some w =>
          obtain ⟨y, g⟩ := w
          have mx := best_max hbb u.1 y g hu1 hq
          have hy2 : y ≤ u.2.1 := by
            rw [us_cons hb hE (ha u.1 hu1) hq] at hu2
            have bd := headL_bd hb hE (ha u.1 hu1) hq
            rcases List.mem_cons.1 hu2 with h2 | h2
            · rw [h2]; exact Int.le_refl _
            · have := us_lo hb hE u.1 _ g (by omega) u.2 h2
              omega
          have nm := need_mono (D := D) hb u.1 hy2
          unfold T Ord itOf
          simp only
          omega
end

theorem sorted_unique : ∀ {L1 L2 : List It}, L1.Pairwise (T Ord) → L2.Pairwise (T Ord) → (∀ x, x ∈ L1 ↔ x ∈ L2) → L1 = L2
  | [], [], _, _, _ => rfl
  | [], y :: l, _, _, h => by have := (h y).2 (List.mem_cons_self ..); cases this
  | x :: l, [], _, _, h => by have := (h x).1 (List.mem_cons_self ..); cases this
  | x :: l, y :: l', h1, h2, h => by
    have p1 := List.pairwise_cons.1 h1
    have p2 := List.pairwise_cons.1 h2
    have hxy : x = y := by
      rcases List.mem_cons.1 ((h x).1 (List.mem_cons_self ..)) with e | e
      · exact e
      · rcases List.mem_cons.1 ((h y).2 (List.mem_cons_self ..)) with e' | e'
        · exact e'.symm
        · exact (T_asymm (p1.1 y e') (p2.1 x e)).elim
    subst hxy
    rw [sorted_unique p1.2 p2.2 fun z => ⟨fun hz => ?_, fun hz => ?_⟩]
    · rcases List.mem_cons.1 ((h z).1 (List.mem_cons_of_mem _ hz)) with e | e
      · subst e; exact (T_irrefl z (p1.1 z hz)).elim
      · exact e
    · rcases List.mem_cons.1 ((h z).2 (List.mem_cons_of_mem _ hz)) with e | e
      · subst e; exact (T_irrefl z (p2.1 z hz)).elim
      · exact e
end Go.Proofs.Ybulkdsao
