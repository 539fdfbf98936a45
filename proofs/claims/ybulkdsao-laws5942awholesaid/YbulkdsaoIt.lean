/-
  The iterator, in plain terms; its surroundings in memory.
-/
import Derived.Test.YbulkdsaoHead
import Derived.Laws.AppendOwn
namespace Go.Proofs.Ybulkdsao
open Go.ChangeShapes Go.WideShapes Go.ChangeAt Go.RowKit Go.Sort
set_option linter.unusedVariables false

theorem adv_le {E : Pd} {a : Int} : ∀ (f i : Nat), f = E.np - i → i ≤ E.np → i ≤ adv E a i ∧ adv E a i ≤ E.np
  | 0, i, h, hi => by
    have : ¬ (i < E.np ∧ E.pe i ≤ a) := by omega
    rw [adv_stop this]; omega
  | f + 1, i, h, hi => by
    by_cases hc : i < E.np ∧ E.pe i ≤ a
    · rw [adv_step hc.1 hc.2]
      have := adv_le (E := E) (a := a) f (i + 1) (by omega) (by omega)
      omega
    · rw [adv_stop hc]; omega
theorem adv_lt {E : Pd} {a : Int} : ∀ (f i : Nat), f = E.np - i → i ≤ E.np → adv E a i < E.np → a < E.pe (adv E a i)
  | 0, i, h, hi => by
    have : ¬ (i < E.np ∧ E.pe i ≤ a) := by omega
    rw [adv_stop this]; omega
  | f + 1, i, h, hi => by
    by_cases hc : i < E.np ∧ E.pe i ≤ a
    · rw [adv_step hc.1 hc.2]
      exact adv_lt (E := E) (a := a) f (i + 1) (by omega) (by omega)
    · rw [adv_stop hc]; intro h1; omega
/-- All that lies before it ends at or before a. -/
theorem adv_before {E : Pd} {a : Int} : ∀ (f i : Nat), f = E.np - i → i ≤ E.np → ∀ j, i ≤ j → j < adv E a i → E.pe j ≤ a
  | 0, i, h, hi => by
    have : ¬ (i < E.np ∧ E.pe i ≤ a) := by omega
    rw [adv_stop this]; intro j h1 h2; omega
  | f + 1, i, h, hi => by
    by_cases hc : i < E.np ∧ E.pe i ≤ a
    · rw [adv_step hc.1 hc.2]
      intro j h1 h2
      by_cases hj : j = i
      · subst hj; exact hc.2
      · exact adv_before (E := E) (a := a) f (i + 1) (by omega) (by omega) j (by omega) h2
    · rw [adv_stop hc]; intro j h1 h2; omega
theorem adv_skip {E : Pd} {a : Int} : ∀ (m i : Nat), i + m ≤ E.np → (∀ j, i ≤ j → j < i + m → E.pe j ≤ a) → adv E a i = adv E a (i + m)
  | 0, i, _, _ => rfl
  | m + 1, i, h, hj => by
    rw [adv_step (by omega) (hj i (by omega) (by omega)), adv_skip m (i + 1) (by omega) (fun j h1 h2 => hj j (by omega) (by omega))]
    congr 1; omega
/-- The cursor's number may stay where it is as its byte goes on. -/
theorem adv_on {E : Pd} {a a' : Int} {k : Nat} (hk : k ≤ E.np) (h : adv E a k = adv E a 0) (hk2 : k = adv E a 0) (ha : a ≤ a') : adv E a' k = adv E a' 0 := by
  have := adv_skip (E := E) (a := a') k 0 (by omega) (fun j h1 h2 => by
    have := adv_before (E := E) (a := a) _ 0 rfl (by omega) j (by omega) (by omega)
    omega)
  rw [this, Nat.zero_add]
theorem adv_idem {E : Pd} {a : Int} : adv E a (adv E a 0) = adv E a 0 := by
  have h1 := adv_le (E := E) (a := a) _ 0 rfl (by omega)
  have := adv_skip (E := E) (a := a) (adv E a 0) 0 (by omega) (fun j h2 h3 => adv_before (E := E) (a := a) _ 0 rfl (by omega) j (by omega) (by omega))
  rw [Nat.zero_add] at this
  exact this.symm

theorem headL_adv {E : Pd} {sg sz ah pos a : Int} {i : Nat} (h : adv E a i = adv E a 0) : headL E sg sz ah pos a i = headL E sg sz ah pos a 0 := by unfold headL; rw [h]

theorem bndL_gt {sg sz x : Int} (hb : Bds sg sz) (h0 : 0 ≤ x) (h1 : x < sz) : x < bndL sg sz x := by
  have g0 := hb.g0
  have := Int.lt_mul_ediv_self_add (x := x) (k := sg) (by omega)
  unfold bndL offL
  split
  · rw [Int.add_mul, Int.mul_comm (x / sg)]; omega
  · exact h1

theorem headL_bd {E : Pd} {sg sz ah pos a x e : Int} (hb : Bds sg sz) (hE : E.Ok sz) (ha : 0 ≤ a) (h : headL E sg sz ah pos a 0 = some (x, e)) : 0 ≤ x ∧ a ≤ x ∧ x < e ∧ e ≤ sz ∧ x < sz := by
  unfold headL at h
  by_cases hj : adv E a 0 < E.np
  · have h1 := adv_lt (E := E) (a := a) _ 0 rfl (by omega) hj
    have h2 := hE.se _ hj
    have h3 := hE.e1 _ hj
    have h4 := hE.s0 _ hj
    simp only [if_pos hj] at h
    generalize hx : (if a < E.ps (adv E a 0) then E.ps (adv E a 0) else a) = y at h
    have hy : 0 ≤ y ∧ a ≤ y ∧ y < E.pe (adv E a 0) := by rw [← hx]; split <;> omega
    have hg := bndL_gt hb hy.1 (show y < sz by omega)
    cases hh : holdsL sg sz ah pos y with
    | false => rw [hh] at h; cases h
    | true =>
      rw [hh] at h
      simp only [if_true, Option.some.injEq, Prod.mk.injEq] at h
      obtain ⟨rfl, rfl⟩ := h
      split <;> omega
  · simp only [if_neg hj] at h
    cases h

/-- The unit that viewer j's cursor is at. -/
def hd (E : Pd) (D : Vd) (sg sz ah : Int) (a : Nat → Int) (j : Nat) : Option (Int × Int) := headL E sg sz ah (D.pos j) (a j) 0

/-- Of the first k cursors: the first of the greatest need, and its unit. -/
def best (E : Pd) (D : Vd) (sg sz ah : Int) (a : Nat → Int) : Nat → Option (Nat × Int × Int)
  | 0 => none
  | k + 1 => match hd E D sg sz ah a k with
    | none => best E D sg sz ah a k
    | some (x, e) => match best E D sg sz ah a k with
      | none => some (k, x, e)
      | some (j, y, f) => if need D sg y j < need D sg x k then some (k, x, e) else some (j, y, f)

theorem best_spec {E : Pd} {D : Vd} {sg sz ah : Int} {a : Nat → Int} : ∀ {k j : Nat} {x e : Int}, best E D sg sz ah a k = some (j, x, e) → j < k ∧ hd E D sg sz ah a j = some (x, e)
  | 0, _, _, _, h => by cases h
  | k + 1, j, x, e, h => by
    simp only [best] at h
    split at h
    · have := best_spec h; exact ⟨by omega, this.2⟩
    · rename_i x' e' hh
      split at h
      · simp only [Option.some.injEq, Prod.mk.injEq] at h
        obtain ⟨rfl, rfl, rfl⟩ := h
        exact ⟨by omega, hh⟩
      · rename_i j' y f hb
        split at h
        · simp only [Option.some.injEq, Prod.mk.injEq] at h
          obtain ⟨rfl, rfl, rfl⟩ := h
          exact ⟨by omega, hh⟩
        · simp only [Option.some.injEq, Prod.mk.injEq] at h
          obtain ⟨rfl, rfl, rfl⟩ := h
          have := best_spec hb; exact ⟨by omega, this.2⟩

/-- Cursor j goes on to byte e. -/
def setA (a : Nat → Int) (j : Nat) (e : Int) : Nat → Int := fun i => if i = j then e else a i

/-- What the iterator yields from here on. -/
def outs (E : Pd) (D : Vd) (sg sz ah : Int) : Nat → (Nat → Int) → List (Nat × Int × Int)
  | 0, _ => []
  | f + 1, a => match best E D sg sz ah a D.nv with
    | none => []
    | some (j, x, e) => if ownTo D sg sz ah x D.nv = some j then (j, x, e) :: outs E D sg sz ah f (setA a j e) else outs E D sg sz ah f (setA a j e)

/-- What is left to be visited. -/
def left (sz : Int) (a : Nat → Int) : Nat → Nat
  | 0 => 0
  | k + 1 => left sz a k + (sz - a k).toNat

theorem left_same {sz : Int} {a a' : Nat → Int} : ∀ {k : Nat}, (∀ i, i < k → a i = a' i) → left sz a k = left sz a' k
  | 0, _ => rfl
  | k + 1, h => by simp only [left]; rw [h k (by omega), left_same fun i hi => h i (by omega)]
theorem left_lt {sz : Int} {a : Nat → Int} {j : Nat} {e : Int} (h0 : a j < e) (h1 : e ≤ sz) : ∀ {k : Nat}, j < k → left sz (setA a j e) k < left sz a k
  | k + 1, hj => by
    simp only [left]
    by_cases e' : j = k
    · subst e'
      rw [left_same (a := setA a j e) (a' := a) (fun i hi => by unfold setA; rw [if_neg (by omega)])]
      simp only [setA, if_true]
      omega
    · have := left_lt h0 h1 (k := k) (by omega)
      have h2 : setA a j e k = a k := by unfold setA; rw [if_neg (by omega)]
      rw [h2]; omega

/-- The surroundings. Z: the blocks that they lie in, and that nobody writes. -/
structure Env (Z : Nat → Prop) (w : World) (xb nb fb tb VB vcap PB pcap : Nat) (pa : Option Addr) (D : Vd) (E : Pd) (sg sz ah : Int) : Prop where
  x : w.cell? ⟨xb, 0, none⟩ = some (.pointer (some ⟨fb, 0, none⟩))
  n0 : w.cell? ⟨nb, 0, none⟩ = some (.int .u64 0)
  n1 : w.cell? ⟨nb, 1, none⟩ = some (.int .i64 0)
  n2 : w.cell? ⟨nb, 2, none⟩ = some (.pointer none)
  fx : Fix w fb tb sg sz ah
  du : w.cell? ⟨tb, 3, none⟩ = some (.float .f64 (fw sz))
  vs : Vs w fb VB vcap D
  pl : Ps w fb PB pcap pa E
  vk : ∀ j, j < D.nv → ∃ c t, w.heap[D.vb j]? = some (Obj.cells c t (0, 0))
  z : Z xb ∧ Z nb ∧ Z fb ∧ Z tb ∧ Z VB ∧ Z PB ∧ ∀ j, j < D.nv → Z (D.vb j)

theorem Env.keep {Z : Nat → Prop} {w w' : World} {xb nb fb tb VB vcap PB pcap : Nat} {pa : Option Addr} {D : Vd} {E : Pd} {sg sz ah : Int} (h : Env Z w xb nb fb tb VB vcap PB pcap pa D E sg sz ah)
    (hk : ∀ k, Z k → w'.heap[k]? = w.heap[k]?) : Env Z w' xb nb fb tb VB vcap PB pcap pa D E sg sz ah := by
  obtain ⟨z1, z2, z3, z4, z5, z6, z7⟩ := h.z
  have c : ∀ {b o : Nat} {v : Value}, Z b → w.cell? ⟨b, o, none⟩ = some v → w'.cell? ⟨b, o, none⟩ = some v := fun hz hc => (World.cell?_of_block (hk _ hz)).trans hc
  exact ⟨c z1 h.x, c z2 h.n0, c z2 h.n1, c z2 h.n2, ⟨c z3 h.fx.ft, c z3 h.fx.fa, c z4 h.fx.ts, c z4 h.fx.tg⟩, c z4 h.du,
    ⟨c z3 h.vs.fv, fun i hi => c z5 (h.vs.el i hi), fun i hi => ⟨c (z7 i hi) (h.vs.vw i hi).s, c (z7 i hi) (h.vs.vw i hi).p, c (z7 i hi) (h.vs.vw i hi).b0, c (z7 i hi) (h.vs.vw i hi).b1, c (z7 i hi) (h.vs.vw i hi).b2⟩⟩,
    ⟨c z3 h.pl.fp, h.pl.pa, fun j hj => c z6 (h.pl.s j hj), fun j hj => c z6 (h.pl.e j hj)⟩, fun j hj => by rw [hk _ (z7 j hj)]; exact h.vk j hj, h.z⟩

/-- The cursors in memory. -/
structure Cs (w : World) (CB : Nat) (D : Vd) (E : Pd) (a : Nat → Int) : Prop where
  blk : ∃ cur, w.heap[CB]? = some (.cells cur 101 (0, 0))
  v : ∀ j, j < D.nv → w.cell? ⟨CB, j * 3, none⟩ = some (.pointer (some ⟨D.vb j, 0, none⟩))
  i : ∀ j, j < D.nv → ∃ k : Nat, k ≤ E.np ∧ adv E (a j) k = adv E (a j) 0 ∧ w.cell? ⟨CB, j * 3 + 1, none⟩ = some (.int .i64 k)
  a : ∀ j, j < D.nv → w.cell? ⟨CB, j * 3 + 2, none⟩ = some (.int .i64 (a j))

theorem Cs.frozen {w : World} {CB : Nat} {D : Vd} {E : Pd} {a : Nat → Int} (h : Cs w CB D E a) (o : Nat) : w.frozen? ⟨CB, o, none⟩ = false := by
  obtain ⟨cur, hc⟩ := h.blk
  simp [World.frozen?, hc]
theorem Cs.keep {w w' : World} {CB : Nat} {D : Vd} {E : Pd} {a : Nat → Int} (h : Cs w CB D E a) (hk : w'.heap[CB]? = w.heap[CB]?) : Cs w' CB D E a := by
  have c : ∀ o, w'.cell? ⟨CB, o, none⟩ = w.cell? ⟨CB, o, none⟩ := fun o => World.cell?_of_block (by exact hk)
  exact ⟨by rw [hk]; exact h.blk, fun j hj => by rw [c]; exact h.v j hj, fun j hj => by rw [c]; exact h.i j hj, fun j hj => by rw [c]; exact h.a j hj⟩
theorem blk_setCell {w : World} {b o t : Nat} {v : Value} (h : ∃ cur, w.heap[b]? = some (.cells cur t (0, 0))) : ∃ cur, (w.setCell ⟨b, o, none⟩ v).heap[b]? = some (.cells cur t (0, 0)) := by
  obtain ⟨cur, hc⟩ := h
  refine ⟨cur.setIfInBounds o v, ?_⟩
  show (w.heap.modify b _)[b]? = _
  rw [Array.getElem?_modify, if_pos rfl, hc]
  rfl
/-- Cursor j's number. -/
theorem Cs.setI {w : World} {CB : Nat} {D : Vd} {E : Pd} {a : Nat → Int} (h : Cs w CB D E a) {j k : Nat} (hj : j < D.nv) (hk : k ≤ E.np) (ha : adv E (a j) k = adv E (a j) 0) : Cs (w.setCell ⟨CB, j * 3 + 1, none⟩ (.int .i64 k)) CB D E a := by
  refine ⟨blk_setCell h.blk, fun i hi => cell_off (h.v i hi) (by omega), fun i hi => ?_, fun i hi => cell_off (h.a i hi) (by omega)⟩
  by_cases e : i = j
  · subst e
    obtain ⟨_, _, _, hc⟩ := h.i i hi
    exact ⟨k, hk, ha, World.cell?_setCell_same _ _ _ hc⟩
  · obtain ⟨k', h1, h2, h3⟩ := h.i i hi
    exact ⟨k', h1, h2, cell_off h3 (by omega)⟩
/-- Cursor j goes on. -/
theorem Cs.setA {w : World} {CB : Nat} {D : Vd} {E : Pd} {a : Nat → Int} (h : Cs w CB D E a) {j : Nat} {e : Int} (hj : j < D.nv) {k : Nat} (hc : w.cell? ⟨CB, j * 3 + 1, none⟩ = some (.int .i64 k)) (hk : k ≤ E.np) (ha : adv E e k = adv E e 0) :
    Cs (w.setCell ⟨CB, j * 3 + 2, none⟩ (.int .i64 e)) CB D E (setA a j e) := by
  refine ⟨blk_setCell h.blk, fun i hi => cell_off (h.v i hi) (by omega), fun i hi => ?_, fun i hi => ?_⟩
  · by_cases e' : i = j
    · subst e'
      refine ⟨k, hk, ?_, cell_off hc (by omega)⟩
      simpa [Ybulkdsao.setA] using ha
    · obtain ⟨k', h1, h2, h3⟩ := h.i i hi
      exact ⟨k', h1, by simpa [Ybulkdsao.setA, e'] using h2, cell_off h3 (by omega)⟩
  · by_cases e' : i = j
    · subst e'
      rw [World.cell?_setCell_same _ _ _ (h.a i hi)]
      simp [Ybulkdsao.setA]
    · rw [cell_off (h.a i hi) (by omega)]
      simp [Ybulkdsao.setA, e']

theorem grownBy_refl (w : World) (r : Option Nat) : w.grownBy w r := ⟨rfl, rfl, rfl, Nat.le_refl _, fun _ _ _ => rfl⟩
theorem grownBy_trans {a b c : World} {r : Option Nat} (h : a.grownBy b r) (k : b.grownBy c r) : a.grownBy c r :=
  ⟨k.os.trans h.os, k.tape.trans h.tape, k.output.trans h.output, Nat.le_trans h.size k.size, fun i hi hn => (k.block i (Nat.lt_of_lt_of_le hi h.size) hn).trans (h.block i hi hn)⟩
theorem grownBy_grow {a b : World} {r : Option Nat} (h : a.grownBy b r) (q : Nat) (os : Array Obj) : a.grownBy (Sort.grow (b.drewN q) os) r :=
  grownBy_trans h ⟨rfl, rfl, rfl, by simp [Sort.grow], fun i hi _ => by simp [Sort.grow, Array.getElem?_append_left hi]⟩
theorem grownBy_drewN {a b : World} {r : Option Nat} (h : a.grownBy b r) (q : Nat) : a.grownBy (b.drewN q) r := grownBy_trans h ⟨rfl, rfl, rfl, Nat.le_refl _, fun _ _ _ => rfl⟩
theorem grownBy_set {a b : World} {c : Nat} (h : a.grownBy b (some c)) (o : Nat) (v : Value) : a.grownBy (b.setCell ⟨c, o, none⟩ v) (some c) :=
  grownBy_trans h ⟨rfl, rfl, rfl, by simp, fun i _ hn => heap_setCell_other _ _ _ _ (fun e => hn (by rw [e]))⟩
theorem grownBy_new {a b : World} {r : Option Nat} (h : a.grownBy b r) (k o : Nat) (v : Value) (hk : a.heap.size ≤ k) : a.grownBy (b.setCell ⟨k, o, none⟩ v) r :=
  ⟨h.os, h.tape, h.output, by simpa using h.size, fun i hi hn => (heap_setCell_other _ _ _ _ (by show i ≠ k; omega)).trans (h.block i hi hn)⟩
theorem grownBy_alloc' {a b : World} {r : Option Nat} (h : a.grownBy b r) (o : Obj) : a.grownBy (b.alloc o) r := grownBy_trans h (World.grownBy_alloc b o r)
theorem Hw.grownBy {w w' : World} {CB o k : Nat} (h : Hw w w' CB o k) : w.grownBy w' (some CB) := by
  obtain ⟨q, os, rfl⟩ := h
  exact grownBy_grow (grownBy_set (grownBy_refl w _) _ _) q os
end Go.Proofs.Ybulkdsao
