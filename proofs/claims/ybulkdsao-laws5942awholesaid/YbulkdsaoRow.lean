/-
  The row of items in memory; the comparison (12); an exchange of two items.
-/
import Derived.Test.YbulkdsaoIt
import Derived.Deep.LoopGhost
namespace Go.Proofs.Ybulkdsao
open Go.ChangeShapes Go.WideShapes Go.ChangeAt Go.RowKit Go.Sort
set_option linter.unusedVariables false

/-- An item. -/
structure It where
  a : Int
  e : Int
  need : Int
  vi : Int

def It.val (x : It) : Value := .agg #[.int .i64 x.a, .int .i64 x.e, .int .i64 x.need, .int .i64 x.vi]

def cf (x y : It) : Int := if y.need < x.need then -1 else if x.need < y.need then 1 else 0

/-- The items in memory. -/
structure Row (W : World) (IB n : Nat) (d : Nat → It) : Prop where
  blk : ∃ cur, W.heap[IB]? = some (Obj.cells cur 96 (0, 0))
  c0 : ∀ i, i < n → W.cell? ⟨IB, i * 4, none⟩ = some (.int .i64 (d i).a)
  c1 : ∀ i, i < n → W.cell? ⟨IB, i * 4 + 1, none⟩ = some (.int .i64 (d i).e)
  c2 : ∀ i, i < n → W.cell? ⟨IB, i * 4 + 2, none⟩ = some (.int .i64 (d i).need)
  c3 : ∀ i, i < n → W.cell? ⟨IB, i * 4 + 3, none⟩ = some (.int .i64 (d i).vi)

theorem Row.frozen {W : World} {IB n : Nat} {d : Nat → It} (h : Row W IB n d) (o : Nat) : W.frozen? ⟨IB, o, none⟩ = false := by
  obtain ⟨cur, hc⟩ := h.blk
  simp [World.frozen?, hc]
theorem Row.lt {W : World} {IB n : Nat} {d : Nat → It} (h : Row W IB n d) : IB < W.heap.size := by
  obtain ⟨cur, hc⟩ := h.blk
  exact (Array.getElem?_eq_some_iff.1 hc).1
theorem Row.keep {W W' : World} {IB n : Nat} {d : Nat → It} (h : Row W IB n d) (hk : W'.heap[IB]? = W.heap[IB]?) : Row W' IB n d := by
  have c : ∀ o, W'.cell? ⟨IB, o, none⟩ = W.cell? ⟨IB, o, none⟩ := fun o => World.cell?_of_block (by exact hk)
  exact ⟨by rw [hk]; exact h.blk, fun i hi => by rw [c]; exact h.c0 i hi, fun i hi => by rw [c]; exact h.c1 i hi, fun i hi => by rw [c]; exact h.c2 i hi, fun i hi => by rw [c]; exact h.c3 i hi⟩
theorem Row.grow {W : World} {IB n : Nat} {d : Nat → It} (h : Row W IB n d) (q : Nat) (os : Array Obj) : Row (Sort.grow (W.drewN q) os) IB n d :=
  h.keep (Array.getElem?_append_left h.lt)

/-- An item laid at place i. -/
def upd (d : Nat → It) (i : Nat) (x : It) : Nat → It := fun j => if j = i then x else d j
def swp (d : Nat → It) (i j : Nat) : Nat → It := upd (upd d i (d j)) j (d i)
/-- Its world. -/
def putIt (W : World) (IB i : Nat) (x : It) : World :=
  (((W.setCell ⟨IB, i * 4, none⟩ (.int .i64 x.a)).setCell ⟨IB, i * 4 + 1, none⟩ (.int .i64 x.e)).setCell ⟨IB, i * 4 + 2, none⟩ (.int .i64 x.need)).setCell ⟨IB, i * 4 + 3, none⟩ (.int .i64 x.vi)

theorem Row.put {W : World} {IB n i : Nat} {d : Nat → It} (h : Row W IB n d) (hi : i < n) (x : It) : Row (putIt W IB i x) IB n (upd d i x) := by
  refine ⟨blk_setCell (blk_setCell (blk_setCell (blk_setCell h.blk))), fun j hj => ?_, fun j hj => ?_, fun j hj => ?_, fun j hj => ?_⟩ <;> by_cases e : j = i
  · subst e
    rw [show (upd d j x j) = x from if_pos rfl]
    exact cell_off (cell_off (cell_off (World.cell?_setCell_same _ _ _ (h.c0 j hj)) (by omega)) (by omega)) (by omega)
  · rw [show (upd d i x j) = d j from if_neg e]
    exact cell_off (cell_off (cell_off (cell_off (h.c0 j hj) (by omega)) (by omega)) (by omega)) (by omega)
  · subst e
    rw [show (upd d j x j) = x from if_pos rfl]
    exact cell_off (cell_off (World.cell?_setCell_same _ _ _ (cell_off (h.c1 j hj) (by omega))) (by omega)) (by omega)
  · rw [show (upd d i x j) = d j from if_neg e]
    exact cell_off (cell_off (cell_off (cell_off (h.c1 j hj) (by omega)) (by omega)) (by omega)) (by omega)
  · subst e
    rw [show (upd d j x j) = x from if_pos rfl]
    exact cell_off (World.cell?_setCell_same _ _ _ (cell_off (cell_off (h.c2 j hj) (by omega)) (by omega))) (by omega)
  · rw [show (upd d i x j) = d j from if_neg e]
    exact cell_off (cell_off (cell_off (cell_off (h.c2 j hj) (by omega)) (by omega)) (by omega)) (by omega)
  · subst e
    rw [show (upd d j x j) = x from if_pos rfl]
    exact World.cell?_setCell_same _ _ _ (cell_off (cell_off (cell_off (h.c3 j hj) (by omega)) (by omega)) (by omega))
  · rw [show (upd d i x j) = d j from if_neg e]
    exact cell_off (cell_off (cell_off (cell_off (h.c3 j hj) (by omega)) (by omega)) (by omega)) (by omega)

theorem putIt_grownBy {w W : World} {IB : Nat} (h : w.grownBy W (some IB)) (i : Nat) (x : It) : w.grownBy (putIt W IB i x) (some IB) :=
  grownBy_set (grownBy_set (grownBy_set (grownBy_set h _ _) _ _) _ _) _ _

theorem Row.drew {W : World} {IB n : Nat} {d : Nat → It} (h : Row W IB n d) : Row W.drew IB n d := h.keep rfl
theorem grownBy_drew {w W : World} {r : Option Nat} (h : w.grownBy W r) : w.grownBy W.drew r := grownBy_drewN h 1
theorem Row.swap {W : World} {IB n i j : Nat} {d : Nat → It} (h : Row W IB n d) (hi : i < n) (hj : j < n) : Row (putIt (putIt W IB i (d j)) IB j (d i)).drew IB n (swp d i j) :=
  ((h.put hi (d j)).put hj (d i)).drew
theorem swap_grownBy {w W : World} {IB : Nat} (h : w.grownBy W (some IB)) (i j : Nat) (x y : It) : w.grownBy (putIt (putIt W IB i x) IB j y).drew (some IB) :=
  grownBy_drew (putIt_grownBy (putIt_grownBy h i x) j y)

set_option maxRecDepth 100000 in
theorem cmp_any (x y : It) (w : World) : Calls Yba.prog 12 #[x.val, y.val] w fun e w' => e = .returned (.int .i64 (cf x y)) ∧ ∃ q os, w' = Sort.grow (w.drewN q) os := by
  obtain ⟨xa, xe, xn, xv⟩ := x
  obtain ⟨ya, ye, yn, yv⟩ := y
  simp only [It.val, cf]
  have G : Hid (∃ q os, (w.alloc (.cells #[.int .i64 xa, .int .i64 xe, .int .i64 xn, .int .i64 xv] 96)).alloc (.cells #[.int .i64 ya, .int .i64 ye, .int .i64 yn, .int .i64 yv] 96) = Sort.grow (w.drewN q) os) :=
    ⟨0, #[.cells #[.int .i64 xa, .int .i64 xe, .int .i64 xn, .int .i64 xv] 96] ++ #[.cells #[.int .i64 ya, .int .i64 ye, .int .i64 yn, .int .i64 yv] 96], by rw [← grow_grow]; rfl⟩
  by_cases h1 : yn < xn
  · rw [if_pos h1]
    go_enter Yba.func12, Yba.ntmps12
    go_wp2
    go_ret
    exact ⟨rfl, G.out⟩
  · rw [if_neg h1]
    by_cases h2 : xn < yn
    · rw [if_pos h2]
      go_enter Yba.func12, Yba.ntmps12
      go_wp2
      go_ret
      exact ⟨rfl, G.out⟩
    · rw [if_neg h2]
      go_enter Yba.func12, Yba.ntmps12
      go_wp2
      go_ret
      exact ⟨rfl, G.out⟩
end Go.Proofs.Ybulkdsao
