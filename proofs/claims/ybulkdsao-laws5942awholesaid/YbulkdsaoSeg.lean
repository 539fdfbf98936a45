/-
  The law's own text, statement by statement.
-/
import Derived.Test.YbulkdsaoIt
namespace Go.Proofs.Ybulkdsao
open Go.ChangeShapes Go.WideShapes Go.ChangeAt Go.RowKit
set_option linter.unusedVariables false

/-- What is left behind k statements; the statement at hand. -/
def dropS : Nat → Code → Code
  | 0, c => c
  | n + 1, .seq _ b => dropS n b
  | _ + 1, c => c
def headS : Code → Code
  | .seq a _ => a
  | c => c
noncomputable def rest (k : Nat) : Code := dropS k (Yba.f3.body.getD .skip)
noncomputable def st (k : Nat) : Code := headS (rest k)

theorem drop_seq : ∀ (k : Nat) (c a b : Code), dropS k c = .seq a b → dropS (k + 1) c = b
  | 0, c, a, b, h => by
    simp only [dropS] at h
    subst h
    rfl
  | k + 1, .seq x y, a, b, h => by
    simp only [dropS] at h
    exact drop_seq k y a b h
  | k + 1, .skip, a, b, h | k + 1, .region .., a, b, h | k + 1, .cond .., a, b, h | k + 1, .block .., a, b, h | k + 1, .loop _, a, b, h | k + 1, .rangeFunc .., a, b, h | k + 1, .exit _, a, b, h
  | k + 1, .scope _, a, b, h | k + 1, .label _, a, b, h | k + 1, .goto _, a, b, h | k + 1, .ret, a, b, h | k + 1, .refuse _, a, b, h => by simp only [dropS] at h; cases h

def isSeq : Code → Bool
  | .seq _ _ => true
  | _ => false

theorem rest_step {Q : Exit → Act → World → Prop} {a : Act} {w : World} (k : Nat) (h : isSeq (rest k) = true) (hw : Code.wp Yba.prog (st k) (Exit.then (Code.wp Yba.prog (rest (k + 1)) Q) Q) a w) : Code.wp Yba.prog (rest k) Q a w := by
  cases hc : rest k with
  | seq x y =>
    have h1 : st k = x := by unfold st; rw [hc]; rfl
    have h2 : rest (k + 1) = y := drop_seq k _ x y hc
    rw [h1, h2] at hw
    exact wp_seq hw
  | _ => rw [hc] at h; cases h

/-- The slots' contents, one by one. -/
def slotsFrom (g : Nat → Value) : Nat → Nat → List Value
  | 0, _ => []
  | n + 1, i => g i :: slotsFrom g n (i + 1)
theorem slots_len (g : Nat → Value) : ∀ n i, (slotsFrom g n i).length = n
  | 0, _ => rfl
  | n + 1, i => by simp [slotsFrom, slots_len g n]
theorem slots_get (g : Nat → Value) : ∀ n i k, k < n → (slotsFrom g n i)[k]? = some (g (i + k))
  | 0, _, _, h => by omega
  | n + 1, i, 0, _ => rfl
  | n + 1, i, k + 1, h => by
    simp only [slotsFrom, List.getElem?_cons_succ]
    rw [slots_get g n (i + 1) k (by omega)]
    congr 2; omega

/-- A frame, slot by slot. -/
theorem lit (t : Array Value) (h : t.size = 497) : ∃ g : Nat → Value, (∀ i v, t[i]? = some v → g i = v) ∧ t = (slotsFrom g 497 0).toArray := by
  refine ⟨fun i => t.getD i (.bool false), fun i v h => by simp only [Array.getD_eq_getD_getElem?, h, Option.getD_some], ?_⟩
  refine Array.ext' (List.ext_getElem? fun k => ?_)
  by_cases hk : k < 497
  · rw [show (slotsFrom (fun i => t.getD i (.bool false)) 497 0).toArray.toList = slotsFrom (fun i => t.getD i (.bool false)) 497 0 from rfl, slots_get _ _ _ _ hk]
    simp [Array.getD, h, hk]
  · rw [List.getElem?_eq_none (by simp [h]; omega), List.getElem?_eq_none (by simp [slots_len]; omega)]
/-- The variables. -/
structure Fx where
  s0 : Value
  s1 : Value
  s2 : Value
  s3 : Value
  s4 : Value
  s5 : Value
  s13 : Value
  s14 : Value
  s15 : Value
  s16 : Value
  s17 : Value
  s20 : Value
  s22 : Value
  s23 : Value
  s24 : Value
  s25 : Value
  s26 : Value
  s33 : Value
  s34 : Value
  s35 : Value
  s36 : Value
  s37 : Value
  s39 : Value
  s49 : Value
/-- The frame holds them. -/
structure At (t : Array Value) (x : Fx) : Prop where
  n : t.size = 497
  h0 : t[0]? = some x.s0
  h1 : t[1]? = some x.s1
  h2 : t[2]? = some x.s2
  h3 : t[3]? = some x.s3
  h4 : t[4]? = some x.s4
  h5 : t[5]? = some x.s5
  h13 : t[13]? = some x.s13
  h14 : t[14]? = some x.s14
  h15 : t[15]? = some x.s15
  h16 : t[16]? = some x.s16
  h17 : t[17]? = some x.s17
  h20 : t[20]? = some x.s20
  h22 : t[22]? = some x.s22
  h23 : t[23]? = some x.s23
  h24 : t[24]? = some x.s24
  h25 : t[25]? = some x.s25
  h26 : t[26]? = some x.s26
  h33 : t[33]? = some x.s33
  h34 : t[34]? = some x.s34
  h35 : t[35]? = some x.s35
  h36 : t[36]? = some x.s36
  h37 : t[37]? = some x.s37
  h39 : t[39]? = some x.s39
  h49 : t[49]? = some x.s49
theorem At.lit {t : Array Value} {x : Fx} (h : At t x) : ∃ g : Nat → Value, (g 0 = x.s0 ∧ g 1 = x.s1 ∧ g 2 = x.s2 ∧ g 3 = x.s3 ∧ g 4 = x.s4 ∧ g 5 = x.s5 ∧ g 13 = x.s13 ∧ g 14 = x.s14 ∧ g 15 = x.s15 ∧ g 16 = x.s16 ∧ g 17 = x.s17 ∧ g 20 = x.s20 ∧ g 22 = x.s22 ∧ g 23 = x.s23 ∧ g 24 = x.s24 ∧ g 25 = x.s25 ∧ g 26 = x.s26 ∧ g 33 = x.s33 ∧ g 34 = x.s34 ∧ g 35 = x.s35 ∧ g 36 = x.s36 ∧ g 37 = x.s37 ∧ g 39 = x.s39 ∧ g 49 = x.s49) ∧ t = (slotsFrom g 497 0).toArray := by
  obtain ⟨g, hg, ht⟩ := Ybulkdsao.lit t h.n
  exact ⟨g, ⟨hg _ _ h.h0, hg _ _ h.h1, hg _ _ h.h2, hg _ _ h.h3, hg _ _ h.h4, hg _ _ h.h5, hg _ _ h.h13, hg _ _ h.h14, hg _ _ h.h15, hg _ _ h.h16, hg _ _ h.h17, hg _ _ h.h20, hg _ _ h.h22, hg _ _ h.h23, hg _ _ h.h24, hg _ _ h.h25, hg _ _ h.h26, hg _ _ h.h33, hg _ _ h.h34, hg _ _ h.h35, hg _ _ h.h36, hg _ _ h.h37, hg _ _ h.h39, hg _ _ h.h49⟩, ht⟩

/-- A new block's cells. -/
theorem newN (w : World) (l : List Value) (t : TypeId) : ∀ j u, l[j]? = some u → (w.alloc (.cells l.toArray t)).cell? ((⟨w.heap.size, 0, none⟩ : Addr).add j) = some u := by
  intro j u hj
  have hadd : (⟨w.heap.size, 0, none⟩ : Addr).add j = ⟨w.heap.size, j, none⟩ := by unfold Addr.add; split <;> simp_all
  rw [hadd, cell_of_row _ w.heap.size j l.toArray t (0, 0) (heap_alloc_new _ _)]
  simpa using hj

/-- The same behind draws. -/
theorem newH (w : World) {W : World} (l : List Value) (t : TypeId) (h : W.heap = (w.alloc (.cells l.toArray t)).heap) : ∀ j u, l[j]? = some u → W.cell? ((⟨w.heap.size, 0, none⟩ : Addr).add j) = some u := by
  intro j u hj
  rw [← newN w l t j u hj]
  exact World.cell?_of_block (by rw [h])
theorem ownH {w W : World} {base e size n : Nat} {v : Value} {xs : List Value} (ob : Obj) (h : w.ownsRow base e size v n xs) (hW : W.heap = (w.alloc ob).heap) : W.ownsRow base e size v n xs := by
  have h1 := h.alloc ob
  unfold World.ownsRow at h1 ⊢
  rw [hW]
  exact h1
theorem belowH {B : Nat} {w0 wr W w1 : World} {row : Option Nat} (ob : Obj) (h : Below B w0 wr) (hB : B ≤ wr.heap.size) (hg : W.grownBy w1 row) (hr : ∀ k, row = some k → B ≤ k) (hW : W.heap = (wr.alloc ob).heap) (hio : W.os = wr.os ∧ W.tape = wr.tape ∧ W.output = wr.output) : Below B w0 w1 := by
  have h1 : Below B w0 W := h.trans ⟨hio.1, hio.2.1, hio.2.2, by rw [hW]; simp, fun k hk => by rw [hW]; exact Below.heap_alloc _ _ _ (by omega)⟩
  exact h1.grown hg (by rw [hW]; simp; omega) hr
theorem keepH {N0 k e size : Nat} {u v : Value} {xs : List Value} {wr W w1 : World} {b o : Nat} (ob : Obj) (hc : wr.cell? ⟨b, o, none⟩ = some v) (hb : b < N0) (hown : wr.ownsRow N0 e size u k xs) (hg : W.grownBy w1 u.ownBlock) (hW : W.heap = (wr.alloc ob).heap) : w1.cell? ⟨b, o, none⟩ = some v := by
  have hlt := World.block_lt_of_cell? _ _ hc
  refine hg.cell (a := ⟨b, o, none⟩) ?_ ?_
  · rw [World.cell?_of_block (w := wr) (w' := W) (by rw [hW]; exact Below.heap_alloc _ _ _ hlt)]
    exact hc
  · intro e
    have := (hown.lt b e.symm).1
    omega
end Go.Proofs.Ybulkdsao
