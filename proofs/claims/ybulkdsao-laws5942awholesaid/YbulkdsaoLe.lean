/-
  'for _, x := range vs { .. }': the viewers.
-/
import Derived.Test.YbulkdsaoLd
import Derived.Deep.DeepAppendRoom
namespace Go.Proofs.Ybulkdsao
open Go.ChangeShapes Go.WideShapes Go.ChangeAt Go.RowKit
set_option linter.unusedVariables false

/-- All but the blocks in B is as it was. -/
structure Kp (B : Nat → Prop) (w W : World) : Prop where
  os : W.os = w.os
  tape : W.tape = w.tape
  output : W.output = w.output
  size : w.heap.size ≤ W.heap.size
  block : ∀ k, k < w.heap.size → ¬ B k → W.heap[k]? = w.heap[k]?

theorem Kp.refl (B : Nat → Prop) (w : World) : Kp B w w := ⟨rfl, rfl, rfl, Nat.le_refl _, fun _ _ _ => rfl⟩
theorem Kp.trans {B : Nat → Prop} {a b c : World} (h : Kp B a b) (k : Kp B b c) : Kp B a c :=
  ⟨k.os.trans h.os, k.tape.trans h.tape, k.output.trans h.output, Nat.le_trans h.size k.size, fun i hi hb => (k.block i (Nat.lt_of_lt_of_le hi h.size) hb).trans (h.block i hi hb)⟩
theorem Kp.grown {B : Nat → Prop} {a b c : World} {row : Option Nat} (h : Kp B a b) (hg : b.grownBy c row) (hr : ∀ k, row = some k → B k ∨ a.heap.size ≤ k) : Kp B a c :=
  ⟨hg.os.trans h.os, hg.tape.trans h.tape, hg.output.trans h.output, Nat.le_trans h.size hg.size, fun i hi hb => (hg.block i (Nat.lt_of_lt_of_le hi h.size) (fun e => by
    rcases hr i e.symm with h1 | h1
    · exact hb h1
    · omega)).trans (h.block i hi hb)⟩
theorem Kp.cell {B : Nat → Prop} {w W : World} (h : Kp B w W) {b o : Nat} {v : Value} (hc : w.cell? ⟨b, o, none⟩ = some v) (hb : ¬ B b) : W.cell? ⟨b, o, none⟩ = some v :=
  (World.cell?_of_block (h.block b (World.block_lt_of_cell? _ _ hc) hb)).trans hc

/-- A viewer's cells. -/
def vcells (st pos b : Int) : List Value := [.int .i64 st, .int .i64 pos, .int .u64 0, .int .i64 b, .pointer none, .float .f64 0, .int .i64 0, .int .u64 0, .int .i64 0, .pointer none]
def ptrsTo (vb : Nat → Nat) (k : Nat) : List Value := (List.range k).map fun j => .pointer (some ⟨vb j, 0, none⟩)
def valsTo (st pos b : Nat → Int) (k : Nat) : List Value := (List.range k).flatMap fun j => vcells (st j) (pos j) (b j)
def bssTo (b : Nat → Int) (k : Nat) : List Value := (List.range k).map fun j => .int .i64 (b j)
theorem ptrsTo_succ (vb : Nat → Nat) (k : Nat) : ptrsTo vb (k + 1) = ptrsTo vb k ++ [.pointer (some ⟨vb k, 0, none⟩)] := by simp [ptrsTo, List.range_succ]
theorem valsTo_succ (st pos b : Nat → Int) (k : Nat) : valsTo st pos b (k + 1) = valsTo st pos b k ++ vcells (st k) (pos k) (b k) := by simp [valsTo, List.range_succ]
theorem bssTo_succ (b : Nat → Int) (k : Nat) : bssTo b (k + 1) = bssTo b k ++ [.int .i64 (b k)] := by simp [bssTo, List.range_succ]
theorem ptrsTo_congr {vb vb' : Nat → Nat} {k : Nat} (h : ∀ j, j < k → vb j = vb' j) : ptrsTo vb k = ptrsTo vb' k := by
  unfold ptrsTo
  refine List.map_congr_left fun j hj => ?_
  rw [h j (List.mem_range.1 hj)]

/-- The viewers that came in. -/
def Vin (w : World) (a4 : Option Addr) (m : Nat) (B : Nat → Prop) (p k g : Nat → Int) : Prop :=
  ∀ j, j < m → ∃ ab ao, a4 = some ⟨ab, ao, none⟩ ∧ ¬ B ab ∧ w.cell? ⟨ab, ao + j * 3, none⟩ = some (.int .u8 (p j)) ∧ w.cell? ⟨ab, ao + j * 3 + 1, none⟩ = some (.int .u8 (k j)) ∧ w.cell? ⟨ab, ao + j * 3 + 2, none⟩ = some (.int .i8 (g j)) ∧
    0 ≤ p j ∧ p j ≤ 255 ∧ 0 ≤ k j ∧ k j ≤ 255 ∧ -128 ≤ g j ∧ g j ≤ 127

/-- The viewers' blocks. -/
structure Vbs (N : Nat) (W : World) (vb : Nat → Nat) (st pos b : Nat → Int) (k : Nat) : Prop where
  lo : ∀ j, j < k → N ≤ vb j
  inc : ∀ i j, i < j → j < k → vb i < vb j
  blk : ∀ j, j < k → W.heap[vb j]? = some (.cells (vcells (st j) (pos j) (b j)).toArray 49 (0, 0))

theorem newA {W : World} {b : Nat} (l : List Value) (t : TypeId) (hb : W.heap[b]? = some (.cells l.toArray t (0, 0))) : ∀ j u, l[j]? = some u → W.cell? ((⟨b, 0, none⟩ : Addr).add j) = some u := by
  intro j u hj
  have hadd : (⟨b, 0, none⟩ : Addr).add j = ⟨b, j, none⟩ := by unfold Addr.add; split <;> simp_all
  rw [hadd, cell_of_row _ b j l.toArray t (0, 0) hb]
  simpa using hj
theorem oneV (st pos b : Int) : ∀ u ∈ vcells st pos b, u.oneCell' = true := by
  intro u hu
  simp [vcells] at hu
  rcases hu with rfl | rfl | rfl | rfl | rfl | rfl | rfl | rfl | rfl | rfl <;> rfl
theorem Vbs.kept {N : Nat} {W W' : World} {vb : Nat → Nat} {st pos b : Nat → Int} {k : Nat} (h : Vbs N W vb st pos b k) (hk : ∀ j, j < k → W'.heap[vb j]? = W.heap[vb j]?) : Vbs N W' vb st pos b k :=
  ⟨h.lo, h.inc, fun j hj => (hk j hj).trans (h.blk j hj)⟩
theorem Vbs.step {N : Nat} {W : World} {vb : Nat → Nat} {st pos b : Nat → Int} {k c : Nat} (h : Vbs N W vb st pos b k) (hN : N ≤ c) (hc : ∀ j, j < k → vb j < c) (hb : W.heap[c]? = some (.cells (vcells (st k) (pos k) (b k)).toArray 49 (0, 0))) :
    Vbs N W (fun j => if j = k then c else vb j) st pos b (k + 1) := by
  refine ⟨fun j hj => ?_, fun i j hi hj => ?_, fun j hj => ?_⟩
  · by_cases e : j = k
    · simp only [if_pos e]; exact hN
    · simp only [if_neg e]; exact h.lo j (by omega)
  · by_cases e : j = k
    · subst e
      simp only [if_pos, if_neg (show i ≠ j by omega)]
      exact hc i hi
    · simp only [if_neg e, if_neg (show i ≠ k by omega)]
      exact h.inc i j hi (by omega)
  · by_cases e : j = k
    · subst e; simp only [if_pos]; exact hb
    · simp only [if_neg e]; exact h.blk j (by omega)

def B3 (b24 b25 b26 : Nat) : Nat → Prop := fun k => k = b24 ∨ k = b25 ∨ k = b26

set_option maxRecDepth 100000 in
set_option maxHeartbeats 1000000 in
theorem st17 (Q : Exit → Act → World → Prop) (t : Array Value) (ds : List Deferred) (w : World) (x : Fx) (m cap4 b24 b25 b26 : Nat) (a4 : Option Addr) (ns : Int) (p bk gn st pos : Nat → Int) (hA : At t x)
    (h4 : x.s4 = .slice a4 m cap4) (h16 : x.s16 = .int .i64 ns) (h24 : x.s24 = .slice (some ⟨b24, 0, none⟩) 0 m) (h25 : x.s25 = .slice (some ⟨b25, 0, none⟩) 0 m) (h26 : x.s26 = .slice (some ⟨b26, 0, none⟩) 0 m)
    (hm : m ≤ 256) (hn0 : 0 ≤ ns) (hn1 : ns ≤ 300) (hin : Vin w a4 m (B3 b24 b25 b26) p bk gn) (hl1 : b24 < b25) (hl2 : b25 < b26)
    (hpos : ∀ j, pos j = p j % (ns + 1)) (hst : ∀ j, st j = pos j - bk j % 4)
    (o24 : w.ownsRow b24 41 1 (.slice (some ⟨b24, 0, none⟩) 0 m) 0 []) (o25 : w.ownsRow b25 49 10 (.slice (some ⟨b25, 0, none⟩) 0 m) 0 []) (o26 : w.ownsRow b26 2 1 (.slice (some ⟨b26, 0, none⟩) 0 m) 0 [])
    (hQ : ∀ t' w' vb, At t' { x with s24 := .slice (some ⟨b24, 0, none⟩) m m, s25 := .slice (some ⟨b25, 0, none⟩) m m, s26 := .slice (some ⟨b26, 0, none⟩) m m } → Kp (B3 b24 b25 b26) w w' → Vbs w.heap.size w' vb st pos gn m →
      w'.ownsRow b24 41 1 (.slice (some ⟨b24, 0, none⟩) m m) m (ptrsTo vb m) → w'.ownsRow b25 49 10 (.slice (some ⟨b25, 0, none⟩) m m) m (valsTo st pos gn m) → w'.ownsRow b26 2 1 (.slice (some ⟨b26, 0, none⟩) m m) m (bssTo gn m) →
      Code.wp Yba.prog (rest 18) Q ⟨t', ds⟩ w') :
    Code.wp Yba.prog (rest 17) Q ⟨t, ds⟩ w := by
  have hmo : Yba.prog.follows .mixedOrders = true := by kernel_rfl
  obtain ⟨s0, s1, s2, s3, s4, s5, s13, s14, s15, s16, s17, s20, s22, s23, s24, s25, s26, s33, s34, s35, s36, s37, s39, s49⟩ := x
  obtain ⟨g, hg, rfl⟩ := hA.lit
  dsimp only at hg h4 h16 h24 h25 h26
  subst h4 h16 h24 h25 h26
  refine rest_step 17 (by kernel_rfl) ?_
  conv => arg 2; whnf
  simp only [slotsFrom, Nat.reduceAdd, hg]
  clear hA hg
  have HIN := hideIt hin
  have HO4 := hideIt o24
  have HO5 := hideIt o25
  have HO6 := hideIt o26
  have HPOS := hideIt hpos
  have HST := hideIt hst
  have HQ := hideIt hQ
  clear hin o24 o25 o26 hQ hpos hst
  go_wp2
  go_loopw [24, 25, 26, 145] (fun v4 v5 v6 i wr => ∃ (k : Nat) (vb : Nat → Nat), k ≤ m ∧ i = .int .i64 k ∧ v4 = .slice (some ⟨b24, 0, none⟩) k m ∧ v5 = .slice (some ⟨b25, 0, none⟩) k m ∧ v6 = .slice (some ⟨b26, 0, none⟩) k m ∧
      wr.ownsRow b24 41 1 (.slice (some ⟨b24, 0, none⟩) k m) k (ptrsTo vb k) ∧ wr.ownsRow b25 49 10 (.slice (some ⟨b25, 0, none⟩) k m) k (valsTo st pos gn k) ∧ wr.ownsRow b26 2 1 (.slice (some ⟨b26, 0, none⟩) k m) k (bssTo gn k) ∧
      Kp (B3 b24 b25 b26) w wr ∧ Vbs w.heap.size wr vb st pos gn k) (fun _ _ _ i _ => m - (intOf i).toNat)
  case atStart => exact ⟨0, fun _ => 0, Nat.zero_le _, rfl, rfl, rfl, rfl, HO4.out, HO5.out, HO6.out, Kp.refl _ _, ⟨fun j hj => by omega, fun i j _ hj => by omega, fun j hj => by omega⟩⟩
  case round =>
    obtain ⟨k, vb, hk, rfl, rfl, rfl, rfl, o4, o5, o6, hkp, hvb⟩ := hrel
    have O4 := hideIt o4
    have O5 := hideIt o5
    have O6 := hideIt o6
    have KP := hideIt hkp
    have VB := hideIt hvb
    clear o4 o5 o6 hkp hvb
    by_cases hlt : k < m
    · obtain ⟨ab, ao, rfl, hab, c0, c1, c2, p0, p1, q0, q1, g0, g1⟩ := HIN.out k hlt
      have d0 := KP.out.cell c0 hab
      have d1 := KP.out.cell c1 hab
      have d2 := KP.out.cell c2 hab
      clear c0 c1 c2
      have hki : (k : Int) < (m : Int) := by omega
      have hki0 : (0 : Int) ≤ (k : Int) := by omega
      have CA := hideIt (fun W => add_any 0 (gn k) (by omega) (by omega) (by omega) (by omega) W)
      have hp := (HPOS.out k).symm
      have hs := (HST.out k).symm
      have hpb : 0 ≤ pos k ∧ pos k ≤ 300 := by
        rw [← hp]
        have := Int.emod_nonneg (p k) (show ns + 1 ≠ 0 by omega)
        have := Int.emod_lt_of_pos (p k) (show 0 < ns + 1 by omega)
        omega
      have hkb : 0 ≤ bk k % 4 ∧ bk k % 4 < 4 := ⟨Int.emod_nonneg _ (by omega), Int.emod_lt_of_pos _ (by omega)⟩
      have hw : wrap64 (pos k - bk k % 4) = st k := by rw [← hs]; unfold wrap64; omega
      have LO4 := (O4.out.lt _ rfl).2
      have LO5 := (O5.out.lt _ rfl).2
      have LO6 := (O6.out.lt _ rfl).2
      go_wp2_with fail
      refine (CA.out _).mono ?_
      rintro e w2 ⟨rfl, q, os2, hw2⟩
      rw [Int.zero_add]
      have G2 : wr.grownBy w2 none := by
        rw [hw2]
        exact grownBy_grow (World.grownBy_alloc _ _ _) _ _
      have O42 := hideIt (O4.out.kept G2 (.inr (by simp [Value.ownBlock])))
      have O52 := hideIt (O5.out.kept G2 (.inr (by simp [Value.ownBlock])))
      have O62 := hideIt (O6.out.kept G2 (.inr (by simp [Value.ownBlock])))
      have KP2 := hideIt (KP.out.grown G2 (fun k hk => by cases hk))
      have VB2 := hideIt (VB.out.kept (fun j hj => G2.block _ (Array.getElem?_eq_some_iff.1 (VB.out.blk j hj)).1 (by simp)))
      have SZ := G2.size
      have VLT : Hid (∀ j, j < k → vb j < w2.heap.size) := fun j hj => Nat.lt_of_lt_of_le (Array.getElem?_eq_some_iff.1 (VB.out.blk j hj)).1 SZ
      clear CA hw2 d0 d1 d2 hp hs hw G2 O4 O5 O6 KP VB
      obtain ⟨ia, hia, _, hz1a, _⟩ := info_parts Yba.info41
      obtain ⟨ib, hib, _, hz1b, _⟩ := info_parts Yba.inf49
      obtain ⟨ic, hic, _, hz1c, _⟩ := info_parts Yba.info2
      have HIA := hideIt hia
      have HIB := hideIt hib
      have HIC := hideIt hic
      have HZA := hideIt hz1a
      have HZB := hideIt hz1b
      have HZC := hideIt hz1c
      clear hia hib hic hz1a hz1b hz1c
      go_wp2_with (first
        | (at_builtin; refine wpList_append_own_spare _ rfl (.tmp 172) (.tmp 174) 36 rfl b24 41 ia 1 Yba.underlying36 HIA.out HZA.out b24 k m (ptrsTo vb k) rfl ((O42.out.alloc _).alloc _) ⟨w2.heap.size + 1, 0, none⟩ 1 1 [.pointer (some ⟨w2.heap.size, 0, none⟩)] rfl rfl ?n1 ?o1 (by omega) ?_
           case n1 => exact newA _ 41 (by rw [show w2.heap.size + 1 = (w2.alloc (Obj.cells (vcells (st k) (pos k) (gn k)).toArray 49)).heap.size by simp]; exact heap_alloc_new _ _)
           case o1 => (intro u hu; simp at hu; subst hu; rfl)
           intro w3 own3 grow3
           have P4 := hideIt own3
           have G3 := hideIt grow3
           have Z3 := G3.out.size
           simp at Z3
           have hv3 : w3.heap[w2.heap.size]? = some (.cells (vcells (st k) (pos k) (gn k)).toArray 49 (0, 0)) := by
             rw [G3.out.block _ (by simp; omega) (by simp; omega), Below.heap_alloc _ _ _ (by simp)]
             exact heap_alloc_new _ _
           have HV3 := hideIt hv3
           have f0 : w3.cell? ⟨w2.heap.size, 0, none⟩ = some (.int .i64 (st k)) := by rw [cell_of_row _ _ _ _ _ _ hv3]; rfl
           have f1 : w3.cell? ⟨w2.heap.size, 1, none⟩ = some (.int .i64 (pos k)) := by rw [cell_of_row _ _ _ _ _ _ hv3]; rfl
           have f2 : w3.cell? ⟨w2.heap.size, 2, none⟩ = some (.int .u64 0) := by rw [cell_of_row _ _ _ _ _ _ hv3]; rfl
           have f3 : w3.cell? ⟨w2.heap.size, 3, none⟩ = some (.int .i64 (gn k)) := by rw [cell_of_row _ _ _ _ _ _ hv3]; rfl
           have f4 : w3.cell? ⟨w2.heap.size, 4, none⟩ = some (.pointer none) := by rw [cell_of_row _ _ _ _ _ _ hv3]; rfl
           have f5 : w3.cell? ⟨w2.heap.size, 5, none⟩ = some (.float .f64 0) := by rw [cell_of_row _ _ _ _ _ _ hv3]; rfl
           have f6 : w3.cell? ⟨w2.heap.size, 6, none⟩ = some (.int .i64 0) := by rw [cell_of_row _ _ _ _ _ _ hv3]; rfl
           have f7 : w3.cell? ⟨w2.heap.size, 7, none⟩ = some (.int .u64 0) := by rw [cell_of_row _ _ _ _ _ _ hv3]; rfl
           have f8 : w3.cell? ⟨w2.heap.size, 8, none⟩ = some (.int .i64 0) := by rw [cell_of_row _ _ _ _ _ _ hv3]; rfl
           have f9 : w3.cell? ⟨w2.heap.size, 9, none⟩ = some (.pointer none) := by rw [cell_of_row _ _ _ _ _ _ hv3]; rfl
           have P5 := hideIt (((O52.out.alloc (Obj.cells (vcells (st k) (pos k) (gn k)).toArray 49)).alloc (Obj.cells #[.pointer (some ⟨w2.heap.size, 0, none⟩)] 41)).kept G3.out (.inr (by simp [Value.ownBlock]; omega)))
           have P6 := hideIt (((O62.out.alloc (Obj.cells (vcells (st k) (pos k) (gn k)).toArray 49)).alloc (Obj.cells #[.pointer (some ⟨w2.heap.size, 0, none⟩)] 41)).kept G3.out (.inr (by simp [Value.ownBlock]; omega)))
           clear own3 grow3 hv3)
        | (at_builtin; refine wpList_append_own_spare _ rfl (.tmp 176) (.tmp 180) 37 rfl b25 49 ib 10 Yba.underlying37 HIB.out HZB.out b25 k m (valsTo st pos gn k) rfl (P5.out.alloc _) ⟨w3.heap.size, 0, none⟩ 1 1 (vcells (st k) (pos k) (gn k)) rfl rfl ?n2 ?o2 (by omega) ?_
           case n2 => exact newN _ _ _
           case o2 => exact oneV _ _ _
           intro w4 own4 grow4
           have R5 := hideIt own4
           have G4 := hideIt grow4
           have R4 := hideIt ((P4.out.alloc (Obj.cells (vcells (st k) (pos k) (gn k)).toArray 49)).kept G4.out (.inr (by simp [Value.ownBlock]; omega)))
           have R6 := hideIt ((P6.out.alloc (Obj.cells (vcells (st k) (pos k) (gn k)).toArray 49)).kept G4.out (.inr (by simp [Value.ownBlock]; omega)))
           clear f0 f1 f2 f3 f4 f5 f6 f7 f8 f9
           clear own4 grow4)
        | (at_builtin; refine wpList_append_own_spare _ rfl (.tmp 182) (.tmp 184) 24 rfl b26 2 ic 1 Yba.underlying24 HIC.out HZC.out b26 k m (bssTo gn k) rfl (R6.out.alloc _) ⟨w4.heap.size, 0, none⟩ 1 1 [.int .i64 (gn k)] rfl rfl ?n3 ?o3 (by omega) ?_
           case n3 => exact newN _ _ _
           case o3 => (intro u hu; simp at hu; subst hu; rfl)
           intro w5 own5 grow5
           have S6 := hideIt own5
           have G5 := hideIt grow5
           have S4 := hideIt ((R4.out.alloc (Obj.cells #[.int .i64 (gn k)] 2)).kept G5.out (.inr (by simp [Value.ownBlock]; omega)))
           have S5 := hideIt ((R5.out.alloc (Obj.cells #[.int .i64 (gn k)] 2)).kept G5.out (.inr (by simp [Value.ownBlock]; omega)))
           clear own5 grow5))
      have L4 : b24 < w.heap.size := (HO4.out.lt _ rfl).2
      have L5 : b25 < w.heap.size := (HO5.out.lt _ rfl).2
      have L6 : b26 < w.heap.size := (HO6.out.lt _ rfl).2
      have K35 : Kp (B3 b24 b25 b26) w3 w5 := ((((Kp.refl _ w3).grown (World.grownBy_alloc _ _ none) (fun k hk => by cases hk)).grown G4.out (fun k hk => by cases hk; exact .inl (.inr (.inl rfl)))).grown (World.grownBy_alloc _ _ none) (fun k hk => by cases hk)).grown G5.out (fun k hk => by cases hk; exact .inl (.inr (.inr rfl)))
      have K23 : Kp (B3 b24 b25 b26) w2 w3 := (((Kp.refl _ w2).grown (World.grownBy_alloc _ _ none) (fun k hk => by cases hk)).grown (World.grownBy_alloc _ _ none) (fun k hk => by cases hk)).grown G3.out (fun k hk => by cases hk; exact .inl (.inl rfl))
      have KW := KP2.out.size
      have hv5 : w5.heap[w2.heap.size]? = some (.cells (vcells (st k) (pos k) (gn k)).toArray 49 (0, 0)) := (K35.block _ (by omega) (by unfold B3; omega)).trans HV3.out
      have V5 := (VB2.out.kept (W' := w5) (fun j hj => (K23.trans K35).block _ (VLT.out j hj) (by have := VB2.out.lo j hj; unfold B3; omega))).step KW VLT.out hv5
      have hptr : ptrsTo (fun j => if j = k then w2.heap.size else vb j) (k + 1) = ptrsTo vb k ++ [.pointer (some ⟨w2.heap.size, 0, none⟩)] := by
        rw [ptrsTo_succ, ptrsTo_congr (vb' := vb) (fun j hj => by rw [if_neg (by omega)])]
        simp
      refine ⟨⟨k + 1, fun j => if j = k then w2.heap.size else vb j, by omega, by go_num, rfl, rfl, rfl, ?_, ?_, ?_, KP2.out.trans (K23.trans K35), V5⟩, by simp [intOf]; omega⟩
      · rw [hptr]; exact S4.out
      · rw [valsTo_succ]; exact S5.out
      · rw [bssTo_succ]; exact S6.out
    · obtain rfl : k = m := by omega
      go_wp2
      exact HQ.out _ _ vb ⟨rfl, rfl, rfl, rfl, rfl, rfl, rfl, rfl, rfl, rfl, rfl, rfl, rfl, rfl, rfl, rfl, rfl, rfl, rfl, rfl, rfl, rfl, rfl, rfl, rfl⟩ KP.out VB.out O4.out O5.out O6.out
end Go.Proofs.Ybulkdsao
