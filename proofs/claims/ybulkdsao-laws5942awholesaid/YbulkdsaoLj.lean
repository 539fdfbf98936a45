/-
  'slices.SortStableFunc(items, ..)': the call's contract over the model's items.
-/
import Derived.Test.YbulkdsaoPm
import Derived.Test.YbulkdsaoStable
namespace Go.Proofs.Ybulkdsao
open Go.ChangeShapes Go.WideShapes Go.ChangeAt Go.RowKit
set_option linter.unusedVariables false

/-- All that the iterator visits. -/
def allVis (E : Pd) (D : Vd) (sg sz ah : Int) : List (Nat × Int × Int) := vis E D sg sz ah (left sz (fun j => offL sg sz (D.pos j)) D.nv + 1) (fun j => offL sg sz (D.pos j))

/-- The sorted items in memory. -/
def SortedAt (W : World) (v : Value) (D : Vd) (sg : Int) (U : List (Nat × Int × Int)) : Prop :=
  (v = .slice none 0 0 ∧ U = []) ∨ ∃ IB cap, v = .slice (some ⟨IB, 0, none⟩) U.length cap ∧ ∀ q (h : q < U.length), W.cell? ⟨IB, q * 4, none⟩ = some (.int .i64 U[q].2.1) ∧ W.cell? ⟨IB, q * 4 + 1, none⟩ = some (.int .i64 U[q].2.2) ∧
    W.cell? ⟨IB, q * 4 + 2, none⟩ = some (.int .i64 (need D sg U[q].2.1 U[q].1)) ∧ W.cell? ⟨IB, q * 4 + 3, none⟩ = some (.int .i64 U[q].1)

theorem itsCells_get (L : List It) : ∀ i (h : i < L.length), (itsCells L)[i * 4]? = some (.int .i64 L[i].a) ∧ (itsCells L)[i * 4 + 1]? = some (.int .i64 L[i].e) ∧ (itsCells L)[i * 4 + 2]? = some (.int .i64 L[i].need) ∧ (itsCells L)[i * 4 + 3]? = some (.int .i64 L[i].vi) := by
  induction L with
  | nil => intro i h; simp at h
  | cons y L ih =>
    intro i h
    have e : itsCells (y :: L) = .int .i64 y.a :: .int .i64 y.e :: .int .i64 y.need :: .int .i64 y.vi :: itsCells L := by simp [itsCells, itCells]
    rw [e]
    cases i with
    | zero => exact ⟨rfl, rfl, rfl, rfl⟩
    | succ i =>
      have := ih i (by simpa using h)
      rw [show (i + 1) * 4 = i * 4 + 4 by omega, show i * 4 + 4 + 1 = i * 4 + 1 + 4 by omega, show i * 4 + 4 + 2 = i * 4 + 2 + 4 by omega, show i * 4 + 4 + 3 = i * 4 + 3 + 4 by omega]
      simpa using this

theorem sort_items {E : Pd} {D : Vd} {sg sz ah : Int} (hb : Bds sg sz) (hE : E.Ok sz) (hD : D.Ok) (ho : ∀ i, i < D.nv → 0 ≤ offL sg sz (D.pos i)) (w : World) (N : Nat) (v : Value) (h : w.ownsRow N 96 4 v (itemsTo E D sg sz ah D.nv).length (itsCells (itemsTo E D sg sz ah D.nv))) :
    Calls Yba.prog 11 #[v, .func (.func 12) #[] #[]] w fun e W => e = .returned (.tuple #[]) ∧ SortedAt W v D sg (allVis E D sg sz ah) ∧ ∃ row, w.grownBy W row ∧ ∀ k, row = some k → N ≤ k := by
  have hlen := itemsTo_len (E := E) (ah := ah) hb D.nv ho
  have hn := hD.n
  have hsv := fun {d d' : Nat → It} => sorted_vis (ah := ah) hb hE ho (d := d) (d' := d')
  obtain ⟨L, hL⟩ : ∃ L, itemsTo E D sg sz ah D.nv = L := ⟨_, rfl⟩
  have hord : L.Pairwise Ord := by rw [← hL]; exact itemsTo_ord hb hE D.nv ho
  rw [hL] at h hlen hsv
  have hlen2 : L.length ≤ 65792 := by omega
  have fin : ∀ (d d' : Nat → It), (∀ i (h : i < L.length), d i = L[i]) → Same 0 L.length d d' → Srt Ord d' 0 L.length → (allVis E D sg sz ah).length = L.length ∧ ∀ q (hq : q < L.length) (hq' : q < (allVis E D sg sz ah).length), d' q = itOf D sg (allVis E D sg sz ah)[q] := by
    intro d d' hd hs ht
    have e := hsv hd hs ht
    have e1 : ((List.range L.length).map d').length = ((allVis E D sg sz ah).map (itOf D sg)).length := by rw [e]; rfl
    simp only [List.length_map, List.length_range] at e1
    refine ⟨e1.symm, fun q hq hq' => ?_⟩
    have e2 : ((List.range L.length).map d')[q]? = ((allVis E D sg sz ah).map (itOf D sg))[q]? := by rw [e]; rfl
    simpa [hq, hq'] using e2
  rcases h.2 with ⟨rfl, h0⟩ | ⟨g, cap, cur, rfl, hbase, hblk, h2, h3, h4, h5⟩
  · have hL0 : L = [] := List.eq_nil_of_length_eq_zero h0
    subst hL0
    refine (sortStable_nil w).mono ?_
    rintro e W ⟨rfl, rfl⟩
    refine ⟨rfl, .inl ⟨rfl, ?_⟩, none, grownBy_refl _ _, fun k hk => by cases hk⟩
    have := (fin (fun _ => ⟨0, 0, 0, 0⟩) (fun _ => ⟨0, 0, 0, 0⟩) (fun i h => by simp at h) (Same.refl _ _ _) (fun i j _ _ hj => by simp at hj)).1
    exact List.eq_nil_of_length_eq_zero (by simpa using this)
  · have cell : ∀ j u, (itsCells L)[j]? = some u → w.cell? ⟨g, j, none⟩ = some u := fun j u hj => by
      have := h.cells (g := g) rfl j u hj
      rwa [Addr.add_lit, Nat.zero_add] at this
    have hd : ∀ i (h : i < L.length), L.getD i ⟨0, 0, 0, 0⟩ = L[i] := fun i h => by simp [List.getD_eq_getElem?_getD, h]
    have hR : Row w g L.length (fun i => L.getD i ⟨0, 0, 0, 0⟩) := by
      refine ⟨⟨cur, hblk⟩, fun i hi => ?_, fun i hi => ?_, fun i hi => ?_, fun i hi => ?_⟩
      all_goals (have := itsCells_get L i hi; simp only [hd i hi])
      · exact cell _ _ this.1
      · exact cell _ _ this.2.1
      · exact cell _ _ this.2.2.1
      · exact cell _ _ this.2.2.2
    refine (sortStable_any Ord Ord.trans g L.length cap (fun i => L.getD i ⟨0, 0, 0, 0⟩) w hR (by omega) (fun i j hij hj => ?_)).mono ?_
    · simp only [hd i (by omega), hd j hj]
      exact List.pairwise_iff_getElem.1 hord i j (by omega) hj hij
    · rintro e W ⟨rfl, hg, d', hr, hs, ht⟩
      obtain ⟨f1, f2⟩ := fin _ d' hd hs ht
      refine ⟨rfl, .inr ⟨g, cap, by rw [f1], fun q hq => ?_⟩, some g, hg, fun k hk => by cases hk; exact hbase⟩
      have e1 := f2 q (by omega) hq
      have c0 := hr.c0 q (by omega)
      have c1 := hr.c1 q (by omega)
      have c2 := hr.c2 q (by omega)
      have c3 := hr.c3 q (by omega)
      rw [e1] at c0 c1 c2 c3
      exact ⟨c0, c1, c2, c3⟩
end Go.Proofs.Ybulkdsao
