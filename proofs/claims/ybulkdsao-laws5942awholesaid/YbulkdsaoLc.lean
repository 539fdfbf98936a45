/-
  'slices.Sort(pts); pts = slices.Compact(pts); var pool []span'.
-/
import Derived.Test.YbulkdsaoSeg
import Derived.Test.YbulkdsaoShelf
import Derived.Sort.OwnSortedInts
namespace Go.Proofs.Ybulkdsao
open Go.ChangeShapes Go.WideShapes Go.ChangeAt Go.RowKit Go.Sort
set_option linter.unusedVariables false

/-- Sorted, each once. -/
def sortedOnce (zs : List Int) : List Int := Lib.compact (zs.mergeSort fun x y => decide (x ≤ y))

theorem compact_len (zs : List Int) : (Lib.compact zs).length ≤ zs.length := by
  unfold Lib.compact Lib.compactUpTo
  rw [List.length_map]
  exact Nat.le_trans (List.length_filter_le _ _) (by simp)

theorem sortedOnce_len (zs : List Int) : (sortedOnce zs).length ≤ zs.length := by
  have := compact_len (zs.mergeSort fun x y => decide (x ≤ y))
  rw [List.length_mergeSort] at this
  exact this

theorem compact_mem {zs : List Int} {y : Int} (h : y ∈ Lib.compact zs) : y ∈ zs := by
  unfold Lib.compact Lib.compactUpTo at h
  obtain ⟨i, hi, rfl⟩ := List.mem_map.1 h
  have h1 := List.mem_range.1 (List.mem_filter.1 hi).1
  rw [getElem!_pos _ i (by simpa using h1)]
  simp

theorem compact_incr {zs : List Int} (h : zs.Pairwise (· ≤ ·)) : (Lib.compact zs).Pairwise (· < ·) := by
  unfold Lib.compact Lib.compactUpTo
  rw [List.pairwise_map]
  refine List.Pairwise.imp_of_mem (R := (· < ·)) ?_ (List.Pairwise.filter _ List.pairwise_lt_range)
  intro i j hi hj hij
  have h1 := List.mem_range.1 (List.mem_filter.1 hi).1
  have h2 := List.mem_range.1 (List.mem_filter.1 hj).1
  have h3 := (List.mem_filter.1 hj).2
  unfold Lib.keeps at h3
  have h4 : zs.toArray[j]! ≠ zs.toArray[j - 1]! := by
    rcases of_decide_eq_true h3 with h | h
    · omega
    · exact h
  have get : ∀ k, k < zs.length → zs.toArray[k]! = zs[k]! := fun k hk => by rw [getElem!_pos _ k (by simpa using hk), getElem!_pos _ k hk]; simp
  have mono : ∀ p q, p ≤ q → q < zs.length → zs[p]! ≤ zs[q]! := fun p q hpq hq => by
    rw [getElem!_pos _ p (by omega), getElem!_pos _ q hq]
    by_cases e : p = q
    · subst e; exact Int.le_refl _
    · exact List.pairwise_iff_getElem.1 h p q (by omega) hq (by omega)
  rw [get _ h2, get _ (by omega)] at h4
  rw [get _ h1, get _ h2]
  have a1 := mono i (j - 1) (by omega) (by omega)
  have a2 := mono (j - 1) j (by omega) h2
  omega

theorem sortedOnce_incr (zs : List Int) : (sortedOnce zs).Pairwise (· < ·) := by
  refine compact_incr ?_
  have := List.pairwise_mergeSort (le := fun x y : Int => decide (x ≤ y)) (fun a b c h1 h2 => by simp at *; omega) (fun a b => by simp; omega) zs
  exact this.imp fun h => by simpa using h
theorem sortedOnce_mem {zs : List Int} {y : Int} (h : y ∈ sortedOnce zs) : y ∈ zs := List.mem_mergeSort.1 (compact_mem h)

/-- A row of integers of the call's own. -/
def RowI (w : World) (N g cap : Nat) (zs : List Int) : Prop := w.ownsRow N 2 1 (.slice (some ⟨g, 0, none⟩) zs.length cap) zs.length (zs.map (Value.int .i64))

theorem sort_any (w : World) (N g cap : Nat) (zs : List Int) (h : RowI w N g cap zs) (hn : zs.length ≤ 4096) :
    Calls Yba.prog 4 #[.slice (some ⟨g, 0, none⟩) zs.length cap] w fun e w1 => e = .returned (.tuple #[]) ∧ w.grownBy w1 (some g) ∧ RowI w1 N g cap (zs.mergeSort fun x y => decide (x ≤ y)) := by
  rcases h.2 with ⟨hnil, _⟩ | ⟨g', cap', cur, hv, hbase, hblk, h1, h2, h3, h4⟩
  · cases hnil
  cases hv
  have hH : Holds (Value.int .i64) w g 0 zs.toArray := holds_of_blockI hblk (by simpa using h4)
  refine (AnyM.slices_Sort_int Yba.laysSort g 0 cap zs w hH (Array.getElem?_eq_some_iff.1 hblk).1 (by omega)).mono ?_
  rintro e w1 ⟨rfl, q1, os1, rfl⟩
  refine ⟨rfl, grownBy_sortedI _, ?_⟩
  have hyl : (zs.mergeSort (fun x y => decide (x ≤ y))).length = zs.length := List.length_mergeSort _
  have := ownsRow_sortedI (n := q1) (os := os1) hyl hbase hblk h1 h2 h3
  unfold RowI
  rw [hyl]
  exact this

theorem comp_any (w : World) (N g cap : Nat) (zs : List Int) (h : RowI w N g cap zs) (hn : zs.length ≤ 4096) :
    Calls Yba.prog 5 #[.slice (some ⟨g, 0, none⟩) zs.length cap] w fun e w1 => e = .returned (.slice (some ⟨g, 0, none⟩) (Lib.compact zs).length cap) ∧ w.grownBy w1 (some g) ∧
      ∀ i, i < (Lib.compact zs).length → w1.cell? ⟨g, i, none⟩ = some (.int .i64 ((Lib.compact zs).getD i 0)) := by
  rcases h.2 with ⟨hnil, _⟩ | ⟨g', cap', cur, hv, hbase, hblk, h1, h2, h3, h4⟩
  · cases hnil
  cases hv
  have hH : Holds (Value.int .i64) w g 0 zs.toArray := holds_of_blockI hblk (by simpa using h4)
  refine (AnyG.slices_Compact_int Yba.laysCompact g 0 cap zs w hH (by omega) h1).mono ?_
  rintro e w1 ⟨rfl, q, rfl⟩
  have hle := compact_len zs
  obtain ⟨cs, hcs⟩ : ∃ cs, Lib.compact zs = cs := ⟨_, rfl⟩
  rw [hcs] at hle ⊢
  obtain ⟨ts, hts⟩ : ∃ ts, cs ++ List.replicate (zs.length - cs.length) 0 = ts := ⟨_, rfl⟩
  have hl : ts.length = zs.length := by rw [← hts]; simp; omega
  rw [hts]
  have G := grownBy_sortedI (w := w) (g := g) (n := q) (os := #[]) ts.toArray
  have O := ownsRow_sortedI (n := q) (os := #[]) hl hbase hblk h1 h2 h3
  rw [grow_empty] at G O
  refine ⟨rfl, G, fun i hi => ?_⟩
  have := O.cells (g := g) rfl i (.int .i64 (cs.getD i 0)) (by
    rw [List.getElem?_map, ← hts, List.getElem?_append_left hi, List.getElem?_eq_getElem hi]
    simp [List.getD_eq_getElem?_getD, List.getElem?_eq_getElem hi])
  rwa [Addr.add_lit, Nat.zero_add] at this

set_option maxRecDepth 100000 in
set_option maxHeartbeats 1000000 in
theorem st8 (Q : Exit → Act → World → Prop) (t : Array Value) (ds : List Deferred) (w0 w : World) (x : Fx) (zs : List Int) (hA : At t x) (hn : zs.length ≤ 4096) (hb : Below w0.heap.size w0 w)
    (hown : w.ownsRow w0.heap.size 2 1 x.s17 zs.length (zs.map (Value.int .i64))) (hnn : x.s17 ≠ .slice none 0 0)
    (hQ : ∀ t' w' PB cap, At t' { x with s17 := .slice (some ⟨PB, 0, none⟩) (sortedOnce zs).length cap, s20 := .slice none 0 0 } → Below w0.heap.size w0 w' →
      (∀ i, i < (sortedOnce zs).length → w'.cell? ⟨PB, i, none⟩ = some (.int .i64 ((sortedOnce zs).getD i 0))) → Code.wp Yba.prog (rest 11) Q ⟨t', ds⟩ w') :
    Code.wp Yba.prog (rest 8) Q ⟨t, ds⟩ w := by
  have hmo : Yba.prog.follows .mixedOrders = true := by kernel_rfl
  rcases hown.2 with ⟨hnil, _⟩ | ⟨g0, cap, cur, h17, hbase, hblk, h1, h2, h3, h4⟩
  · exact absurd hnil hnn
  have R0 : RowI w w0.heap.size g0 cap zs := by rw [h17] at hown; exact hown
  clear hblk h3 h4 hown hnn
  obtain ⟨s0, s1, s2, s3, s4, s5, s13, s14, s15, s16, s17, s20, s22, s23, s24, s25, s26, s33, s34, s35, s36, s37, s39, s49⟩ := x
  obtain ⟨g, hg, rfl⟩ := hA.lit
  dsimp only at hg h17
  subst h17
  refine rest_step 8 (by kernel_rfl) ?_
  conv => arg 2; whnf
  simp only [slotsFrom, Nat.reduceAdd, hg]
  clear hA hg
  obtain ⟨ys, hys⟩ : ∃ ys, zs.mergeSort (fun x y => decide (x ≤ y)) = ys := ⟨_, rfl⟩
  have hyl : ys.length = zs.length := by rw [← hys]; exact List.length_mergeSort _
  have C1 := sort_any w _ g0 cap zs R0 hn
  rw [hys] at C1
  obtain ⟨cs, hcs⟩ : ∃ cs, Lib.compact ys = cs := ⟨_, rfl⟩
  have hyc : sortedOnce zs = cs := by unfold sortedOnce; rw [hys]; exact hcs
  rw [hyc] at hQ
  have C2 := hideIt (fun w1 (R1 : RowI w1 w0.heap.size g0 cap ys) => comp_any w1 _ g0 cap ys R1 (by omega))
  rw [hcs, hyl] at C2
  obtain ⟨m, hm⟩ : ∃ m, cs.length = m := ⟨_, rfl⟩
  rw [hm] at C2 hQ
  have HC1 := hideIt C1
  have HQ := hideIt hQ
  have HB := hideIt hb
  clear hQ hb C1 R0 hys hyl hcs hyc hm
  go_wp2_with fail
  refine HC1.out.mono ?_
  rintro e w1 ⟨rfl, g1, R1⟩
  have C3 := hideIt (C2.out w1 R1)
  have HB1 := hideIt (HB.out.grown g1 HB.out.size (fun k hk => by cases hk; exact hbase))
  clear HC1 C2 g1 R1 HB
  go_wp2
  refine rest_step 9 (by kernel_rfl) ?_
  conv => arg 2; whnf
  go_wp2_with fail
  refine C3.out.mono ?_
  rintro e w2 ⟨rfl, g2, hc⟩
  have HB2 := hideIt (HB1.out.grown g2 HB1.out.size (fun k hk => by cases hk; exact hbase))
  have HC := hideIt hc
  clear C3 g2 hc HB1
  go_wp2
  refine rest_step 10 (by kernel_rfl) ?_
  conv => arg 2; whnf
  go_wp2
  exact HQ.out _ _ _ _ ⟨rfl, rfl, rfl, rfl, rfl, rfl, rfl, rfl, rfl, rfl, rfl, rfl, rfl, rfl, rfl, rfl, rfl, rfl, rfl, rfl, rfl, rfl, rfl, rfl, rfl⟩ HB2.out HC.out
end Go.Proofs.Ybulkdsao
