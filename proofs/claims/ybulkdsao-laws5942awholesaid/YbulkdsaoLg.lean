/-
  'for u := range f.units(now) { got = append(got, u); if limit > 0 && len(got) >= limit { break } }'.
-/
import Derived.Test.YbulkdsaoLf
import Derived.Test.YbulkdsaoSeg
namespace Go.Proofs.Ybulkdsao
open Go.ChangeShapes Go.WideShapes Go.ChangeAt Go.RowKit
set_option linter.unusedVariables false

def rfAssign : Code → Code
  | .seq _ (.block _ (.rangeFunc _ _ a _)) => a
  | c => c
def rfBody : Code → Code
  | .seq _ (.block _ (.rangeFunc _ _ _ b)) => b
  | c => c
noncomputable def asg : Code := rfAssign (st 23)
noncomputable def bod : Code := rfBody (st 23)

/-- The round's frame. -/
def g1 (g : Nat → Value) (v : Value) (b : Nat) : Nat → Value := fun i => if i = 38 then .pointer (some ⟨b, 0, none⟩) else if i = 201 then v else g i

set_option maxRecDepth 100000 in
set_option maxHeartbeats 1000000 in
theorem asg_wp (g : Nat → Value) (D : Vd) (l : Nat) (u : Nat × Int × Int) (W : World) (K : Act → World → Prop) (hK : K ⟨(slotsFrom (g1 g (encU D u) W.heap.size) 497 0).toArray, []⟩ (W.alloc (.cells (cellsU D u).toArray 92))) :
    asg.wpIn (Fence.wide.inRound l) 3 Yba.prog (Exit.then K (fun _ _ _ => False)) ⟨(slotsFrom g 497 0).toArray.setIfInBounds 201 (encU D u), []⟩ W := by
  unfold encU at hK ⊢
  simp only [slotsFrom, g1, Nat.reduceAdd, Nat.reduceEqDiff, if_true, if_false] at hK
  simp only [slotsFrom, Nat.reduceAdd, List.setIfInBounds_toArray, List.set_cons_succ, List.set_cons_zero]
  conv => arg 4; whnf
  gi_wp2_with (rw [Oper.semAt_eq _ _ _ (fun c h => by cases h)]; go_simp; try go_bits)
  exact hK

theorem grownBy_setCell0 (W : World) (b : Nat) (v : Value) : W.grownBy (W.setCell ⟨b, 0, none⟩ v) (some b) :=
  ⟨rfl, rfl, rfl, (KeepsWalks.setCell W _ v).size, fun k _ hk => Below.heap_setCell _ _ _ k (fun e => hk (by rw [e]))⟩
theorem ownsRow_ne {W : World} {base : Nat} {e : TypeId} {size : Nat} {v : Value} {k : Nat} {xs : List Value} (h : W.ownsRow base e size v k xs) {j : Nat} {o : Obj} (hj : W.heap[j]? = some o) (hno : ∀ cur, o ≠ .cells cur e (0, 0)) :
    v.ownBlock = none ∨ v.ownBlock ≠ some j := by
  rcases h.2 with ⟨rfl, _⟩ | ⟨g, cap, cur, rfl, _, hgb, _⟩
  · exact .inl rfl
  · refine .inr fun e' => ?_
    have : g = j := by simpa [Value.ownBlock] using e'
    subst this; rw [hgb] at hj; cases hj; exact hno cur rfl
theorem some_ne_own {W : World} {base : Nat} {e : TypeId} {size : Nat} {v : Value} {k : Nat} {xs : List Value} (h : W.ownsRow base e size v k xs) {j : Nat} {o : Obj} (hj : W.heap[j]? = some o) (hno : ∀ cur, o ≠ .cells cur e (0, 0)) : some j ≠ v.ownBlock := by
  rcases ownsRow_ne h hj hno with e | e
  · rw [e]; simp
  · exact fun e' => e e'.symm
theorem cell_of_box {W : World} {B : Nat} {v : Value} {t : TypeId} (h : W.heap[B]? = some (.cells #[v] t (0, 0))) : W.cell? ⟨B, 0, none⟩ = some v ∧ W.frozen? ⟨B, 0, none⟩ = false := by
  constructor <;> simp [World.cell?, World.frozen?, h]
theorem heap_setCell_box {W : World} {B : Nat} {v : Value} {t : TypeId} (v' : Value) (h : W.heap[B]? = some (.cells #[v] t (0, 0))) : (W.setCell ⟨B, 0, none⟩ v').heap[B]? = some (.cells #[v'] t (0, 0)) := by
  obtain ⟨hlt, hk⟩ := Array.getElem?_eq_some_iff.1 h
  show (W.heap.modify B _)[B]? = _
  rw [Array.getElem?_eq_getElem (by rw [Array.size_modify]; exact hlt), Array.getElem_modify_self, hk]
  rfl

theorem Yba.info92 : (Yba.prog.info? 92).map (fun i => (i.zero, i.size, i.bytes)) = some (some (.agg #[.int .i64 0, .int .i64 0, .pointer none]), 3, 24) := by kernel_rfl

/-- Behind the append and the store. -/
theorem keepB_of {D : Vd} {gb lb N0 lim : Nat} {pre : List (Nat × Int × Int)} {u : Nat × Int × Int} {W w3 : World} {v v' : Value} (ob : Obj) (hN : N0 ≤ W.heap.size) (hgb : Boxed W gb 87 v) (hlb : Boxed W lb 3 (.int .i64 lim)) (hrow : W.ownsRow N0 92 3 v pre.length (cellsUs D pre))
    (own3 : w3.ownsRow N0 92 3 v' (pre.length + 1) (cellsUs D pre ++ cellsU D u)) (hg : (W.alloc ob).grownBy w3 v.ownBlock) :
    (w3.cell? ⟨gb, 0, none⟩ = some v ∧ w3.frozen? ⟨gb, 0, none⟩ = false ∧ w3.cell? ⟨lb, 0, none⟩ = some (.int .i64 lim) ∧ gb ≠ lb) ∧ KeepB gb N0 W (w3.setCell ⟨gb, 0, none⟩ v') ∧ GI D gb lb N0 lim (pre ++ [u]) (w3.setCell ⟨gb, 0, none⟩ v') := by
  have glt := hgb.lt
  have llt := hlb.lt
  have old : ∀ k o, W.heap[k]? = some o → (∀ cur, o ≠ Obj.cells cur 92 (0, 0)) → w3.heap[k]? = some o := fun k o hk hno => by
    have hlt := (Array.getElem?_eq_some_iff.1 hk).1
    rw [hg.block k (by simp; omega) (some_ne_own hrow hk hno), Below.heap_alloc _ _ _ hlt]; exact hk
  have gb3 : Boxed w3 gb 87 v := old gb _ hgb (fun c e => by cases e)
  have lb3 : Boxed w3 lb 3 (.int .i64 lim) := old lb _ hlb (fun c e => by cases e)
  have hne : gb ≠ lb := fun e => by subst e; rw [Boxed] at hgb hlb; rw [hgb] at hlb; cases hlb
  have g4 := grownBy_setCell0 w3 gb v'
  refine ⟨⟨(cell_of_box gb3).1, (cell_of_box gb3).2, (cell_of_box lb3).1, hne⟩, ⟨⟨hg.os, hg.output⟩, ⟨?_, ?_⟩, ?_, ?_⟩, ⟨v', heap_setCell_box _ gb3, ?_⟩, ?_⟩
  · have := hg.size; have := g4.size; simp at *; omega
  · intro k o hk ho
    have h3 := old k o hk (fun c e => by subst e; cases ho)
    rw [Below.heap_setCell _ _ _ _ (fun e => by subst e; rw [Boxed] at gb3; rw [gb3] at h3; cases h3; cases ho)]
    exact h3
  · intro k hk hkg
    rw [Below.heap_setCell _ _ _ _ hkg, hg.block k (by simp; omega) (fun e => by have := (hrow.lt k e.symm).1; omega), Below.heap_alloc _ _ _ (by omega)]
  · intro k t cur ht hk
    have h3 := old k _ hk (fun c e => by cases e; omega)
    rw [Below.heap_setCell _ _ _ _ (fun e => by subst e; rw [Boxed] at gb3; rw [gb3] at h3; cases h3; omega)]
    exact h3
  · have h5 := own3.kept g4 (ownsRow_ne own3 gb3 (fun c e => by cases e))
    have e1 : (pre ++ [u]).length = pre.length + 1 := by simp
    have e2 : cellsUs D (pre ++ [u]) = cellsUs D pre ++ cellsU D u := by simp [cellsUs]
    rw [e1, e2]; exact h5
  · rw [Boxed, Below.heap_setCell _ _ _ _ (Ne.symm hne)]; exact lb3

set_option maxRecDepth 100000 in
set_option maxHeartbeats 1000000 in
theorem bod_wp (g : Nat → Value) (D : Vd) (l gb lb N0 lim ub : Nat) (pre : List (Nat × Int × Int)) (u : Nat × Int × Int) (W : World) (h36 : g 36 = .pointer (some ⟨lb, 0, none⟩)) (h37 : g 37 = .pointer (some ⟨gb, 0, none⟩)) (hgi : GI D gb lb N0 lim pre W)
    (hub : W.heap[ub]? = some (Obj.cells (cellsU D u).toArray 92 (0, 0))) (hl : lim = 0 ∨ pre.length < lim) (hpl : pre.length ≤ 1000000) (hN : N0 ≤ W.heap.size) (hl16 : lim ≤ 16) :
    bod.wpIn (Fence.wide.inRound l) 3 Yba.prog (bPost D gb lb N0 lim 6 (pre ++ [u]) W) ⟨(slotsFrom (g1 g (encU D u) ub) 497 0).toArray, []⟩ W := by
  obtain ⟨⟨v, hgb, hrow⟩, hlb⟩ := hgi
  obtain ⟨hc, hf⟩ := cell_of_box hgb
  obtain ⟨hcl, _⟩ := cell_of_box hlb
  have u0 : W.cell? ⟨ub, 0, none⟩ = some (.int .i64 u.2.1) := by rw [cell_of_row _ _ _ _ _ _ hub]; rfl
  have u1 : W.cell? ⟨ub, 1, none⟩ = some (.int .i64 u.2.2) := by rw [cell_of_row _ _ _ _ _ _ hub]; rfl
  have u2 : W.cell? ⟨ub, 2, none⟩ = some (.pointer (some ⟨D.vb u.1, 0, none⟩)) := by rw [cell_of_row _ _ _ _ _ _ hub]; rfl
  obtain ⟨i0, hi, hz0, hz1, hz2⟩ := info_parts Yba.info92
  have HI := hideIt hi
  have HZ0 := hideIt hz0
  have HZ1 := hideIt hz1
  have HZ2 := hideIt hz2
  have HR := hideIt hrow
  have HGB := hideIt hgb
  have HLB := hideIt hlb
  have HN := hideIt hN
  have HPL := hideIt hpl
  clear hi hz0 hz1 hz2 hrow hgb hlb hub hN hpl
  obtain ⟨n1, hn1⟩ : ∃ n1, pre.length + 1 = n1 := ⟨_, rfl⟩
  have HN1 := hideIt hn1
  have hn2 : (pre ++ [u]).length = n1 := by simp [hn1]
  have HN2 := hideIt hn2
  by_cases c : lim = 0
  · have c0 : ¬ ((0 : Int) < (lim : Int)) := by omega
    clear hn1 hn2
    simp only [slotsFrom, g1, Nat.reduceAdd, Nat.reduceEqDiff, if_true, if_false, h36, h37]
    conv => arg 4; whnf
    gi_wp2_with (first
      | (gi_at_builtin; refine wpListIn_append_own _ rfl _ _ 87 rfl N0 92 i0 (.agg #[.int .i64 0, .int .i64 0, .pointer none]) 3 24 Yba.underlying87 HI.out HZ0.out HZ1.out HZ2.out rfl (by decide) _ _ _ rfl (HR.out.alloc _) ⟨W.heap.size, 0, none⟩ 1 1 (cellsU D u) rfl rfl ?apA ?apB ?apC ?apD ?apE ?_
         case apA => exact newN _ _ _
         case apB => (intro z hz; simp [cellsU] at hz; rcases hz with rfl | rfl | rfl <;> rfl)
         case apC => (have := HPL.out; unfold maxLen; omega)
         case apD => (have := HPL.out; omega)
         case apE => (have := HN.out; simp; omega)
         intro v' w3 own3 grow3 _
         obtain ⟨g', cap', hv'⟩ : ∃ g' cap', v' = .slice (some ⟨g', 0, none⟩) n1 cap' := by
           have hn1 := HN1.out
           rcases own3.2 with ⟨_, h0⟩ | ⟨g', cap', cur', h', _⟩
           · exact absurd h0 (by omega)
           · exact ⟨g', cap', by rw [← hn1]; exact h'⟩
         subst hv'
         obtain ⟨⟨hc3, hf3, hcl3, hgl⟩, KB, GB⟩ := keepB_of _ HN.out HGB.out HLB.out HR.out own3 grow3
         have hgl' := Ne.symm hgl
         have HKB := hideIt KB
         have HGI := hideIt GB
         clear own3 grow3 hc hf hcl u0 u1 u2 KB GB)
      | (rw [Oper.semAt_eq _ _ _ (fun c h => by cases h)]; go_simp; try go_bits))
    refine ⟨HKB.out, ?_, .inl rfl⟩
    first | exact HGI.out | (have h := HGI.out; rw [c] at h; exact h)
  · have c0 : (0 : Int) < (lim : Int) := by omega
    by_cases cc : lim ≤ n1
    · have c1 : (lim : Int) ≤ (n1 : Int) := by omega
      clear hn1 hn2
      simp only [slotsFrom, g1, Nat.reduceAdd, Nat.reduceEqDiff, if_true, if_false, h36, h37]
      conv => arg 4; whnf
      gi_wp2_with (first
        | (gi_at_builtin; refine wpListIn_append_own _ rfl _ _ 87 rfl N0 92 i0 (.agg #[.int .i64 0, .int .i64 0, .pointer none]) 3 24 Yba.underlying87 HI.out HZ0.out HZ1.out HZ2.out rfl (by decide) _ _ _ rfl (HR.out.alloc _) ⟨W.heap.size, 0, none⟩ 1 1 (cellsU D u) rfl rfl ?apA ?apB ?apC ?apD ?apE ?_
           case apA => exact newN _ _ _
           case apB => (intro z hz; simp [cellsU] at hz; rcases hz with rfl | rfl | rfl <;> rfl)
           case apC => (have := HPL.out; unfold maxLen; omega)
           case apD => (have := HPL.out; omega)
           case apE => (have := HN.out; simp; omega)
           intro v' w3 own3 grow3 _
           obtain ⟨g', cap', hv'⟩ : ∃ g' cap', v' = .slice (some ⟨g', 0, none⟩) n1 cap' := by
             have hn1 := HN1.out
             rcases own3.2 with ⟨_, h0⟩ | ⟨g', cap', cur', h', _⟩
             · exact absurd h0 (by omega)
             · exact ⟨g', cap', by rw [← hn1]; exact h'⟩
           subst hv'
           obtain ⟨⟨hc3, hf3, hcl3, hgl⟩, KB, GB⟩ := keepB_of _ HN.out HGB.out HLB.out HR.out own3 grow3
           have hgl' := Ne.symm hgl
           have HKB := hideIt KB
           have HGI := hideIt GB
           clear own3 grow3 hc hf hcl u0 u1 u2 KB GB)
        | (rw [Oper.semAt_eq _ _ _ (fun c h => by cases h)]; go_simp; try go_bits))
      have h1 := HN1.out
      have h2 := HN2.out
      exact ⟨rfl, HKB.out, HGI.out, by omega, by rw [h2]; omega⟩
    · have c1 : ¬ ((lim : Int) ≤ (n1 : Int)) := by omega
      clear hn1 hn2
      simp only [slotsFrom, g1, Nat.reduceAdd, Nat.reduceEqDiff, if_true, if_false, h36, h37]
      conv => arg 4; whnf
      gi_wp2_with (first
        | (gi_at_builtin; refine wpListIn_append_own _ rfl _ _ 87 rfl N0 92 i0 (.agg #[.int .i64 0, .int .i64 0, .pointer none]) 3 24 Yba.underlying87 HI.out HZ0.out HZ1.out HZ2.out rfl (by decide) _ _ _ rfl (HR.out.alloc _) ⟨W.heap.size, 0, none⟩ 1 1 (cellsU D u) rfl rfl ?apA ?apB ?apC ?apD ?apE ?_
           case apA => exact newN _ _ _
           case apB => (intro z hz; simp [cellsU] at hz; rcases hz with rfl | rfl | rfl <;> rfl)
           case apC => (have := HPL.out; unfold maxLen; omega)
           case apD => (have := HPL.out; omega)
           case apE => (have := HN.out; simp; omega)
           intro v' w3 own3 grow3 _
           obtain ⟨g', cap', hv'⟩ : ∃ g' cap', v' = .slice (some ⟨g', 0, none⟩) n1 cap' := by
             have hn1 := HN1.out
             rcases own3.2 with ⟨_, h0⟩ | ⟨g', cap', cur', h', _⟩
             · exact absurd h0 (by omega)
             · exact ⟨g', cap', by rw [← hn1]; exact h'⟩
           subst hv'
           obtain ⟨⟨hc3, hf3, hcl3, hgl⟩, KB, GB⟩ := keepB_of _ HN.out HGB.out HLB.out HR.out own3 grow3
           have hgl' := Ne.symm hgl
           have HKB := hideIt KB
           have HGI := hideIt GB
           clear own3 grow3 hc hf hcl u0 u1 u2 KB GB)
        | (rw [Oper.semAt_eq _ _ _ (fun c h => by cases h)]; go_simp; try go_bits))
      have h2 := HN2.out
      exact ⟨HKB.out, HGI.out, .inr (by rw [h2]; omega)⟩

theorem outs_len (E : Pd) (D : Vd) (sg sz ah : Int) : ∀ f a, (outs E D sg sz ah f a).length ≤ f
  | 0, a => by simp [outs]
  | f + 1, a => by
    simp only [outs]
    split
    · simp
    · split
      · have := outs_len E D sg sz ah f
        simp only [List.length_cons]
        exact Nat.succ_le_succ (this _)
      · exact Nat.le_trans (outs_len E D sg sz ah f _) (Nat.le_succ _)
theorem left_le (sz : Int) (a : Nat → Int) (M : Nat) : ∀ k, (∀ i, i < k → (sz - a i).toNat ≤ M) → left sz a k ≤ k * M
  | 0, _ => by simp [left]
  | k + 1, h => by
    simp only [left]
    have := left_le sz a M k (fun i hi => h i (by omega))
    have := h k (by omega)
    rw [Nat.succ_mul]; omega

theorem outs_small {E : Pd} {D : Vd} {sg sz ah : Int} (hb : Bds sg sz) (hD : D.Ok) : (outs E D sg sz ah (left sz (fun j => offL sg sz (D.pos j)) D.nv + 1) (fun j => offL sg sz (D.pos j))).length ≤ 70000 := by
  have h1 := outs_len E D sg sz ah (left sz (fun j => offL sg sz (D.pos j)) D.nv + 1) (fun j => offL sg sz (D.pos j))
  have h2 := left_le sz (fun j => offL sg sz (D.pos j)) 256 D.nv (fun i hi => by
    have p0 := hD.p0 i hi
    have g0 := hb.g0
    have z0 := hb.z0
    have z1 := hb.z1
    have : 0 ≤ offL sg sz (D.pos i) := by
      unfold offL
      split
      · exact Int.mul_nonneg p0 (by omega)
      · omega
    show (sz - offL sg sz (D.pos i)).toNat ≤ 256
    omega)
  have h3 := hD.n
  have h4 : D.nv * 256 ≤ 65536 := by omega
  omega

theorem range23 (Q : Exit → Act → World → Prop) (t : Array Value) (ds : List Deferred) (w : World) (xb nb fb tb VB vcap PB pcap : Nat) (pa : Option Addr) (D : Vd) (E : Pd) (sg sz ah : Int) (Z : Nat → Prop) (gb lb lim : Nat)
    (hn : t.size = 497) (h36 : t[36]? = some (.pointer (some ⟨lb, 0, none⟩))) (h37 : t[37]? = some (.pointer (some ⟨gb, 0, none⟩))) (h200 : t[200]? = some (.func (.func 20) #[] #[.pointer (some ⟨xb, 0, none⟩), .pointer (some ⟨nb, 0, none⟩)]))
    (hb : Bds sg sz) (hD : D.Ok) (hE : E.Ok sz) (ha0 : 0 ≤ ah) (ha1 : ah ≤ 255) (env : Env Z w xb nb fb tb VB vcap PB pcap pa D E sg sz ah) (hZ : ∀ k, Z k → k < w.heap.size ∧ k ≠ gb)
    (hcur : w.cell? ⟨fb, 45, none⟩ = some (.slice none 0 0)) (hff : w.frozen? ⟨fb, 45, none⟩ = false) (h45 : VB ≠ fb ∧ (0 < E.np → PB ≠ fb)) (hinj : ∀ i j, i < D.nv → j < D.nv → D.vb i = D.vb j → i = j)
    (hgb : Boxed w gb 87 (.slice none 0 0)) (hlb : Boxed w lb 3 (.int .i64 lim)) (hgf : gb ≠ fb) (hlf : lb ≠ fb) (hl16 : lim ≤ 16)
    (hfin : ∀ (W : World), Env Z W xb nb fb tb VB vcap PB pcap pa D E sg sz ah →
      (∃ CB cap c, (D.nv = 0 ∧ W.cell? ⟨fb, 45, none⟩ = some (.slice none 0 0)) ∨ (W.cell? ⟨fb, 45, none⟩ = some (.slice (some ⟨CB, 0, none⟩) D.nv cap) ∧ Cs W CB D E c)) →
      GI D gb lb (w.heap.size + 2) lim (cutAt lim (outs E D sg sz ah (left sz (fun j => offL sg sz (D.pos j)) D.nv + 1) (fun j => offL sg sz (D.pos j)))) W →
      (∀ k, k < w.heap.size → k ≠ gb → k ≠ fb → W.heap[k]? = w.heap[k]?) → W.heap[w.heap.size]? = some (.deferred (some [])) → w.heap.size + 2 ≤ W.heap.size → (W.os = w.os ∧ W.output = w.output) →
      Q .normal ⟨t, { target := .collected w.heap.size, args := #[] } :: ds⟩ W ∧ Q (.exit 6) ⟨t, { target := .collected w.heap.size, args := #[] } :: ds⟩ W) :
    (Code.rangeFunc (.tmp 200) #[201] asg bod).wpIn Fence.wide 5 Yba.prog Q ⟨t, ds⟩ w := by
  obtain ⟨g, hg, rfl⟩ := lit t hn
  have e36 := hg 36 _ h36
  have e37 := hg 37 _ h37
  refine range_units (.tmp 200) 201 asg bod Q _ w xb nb fb tb VB vcap PB pcap pa D E sg sz ah Z gb lb lim 6 ?ev hb hD hE ha0 ha1 env hZ hcur hff h45 hinj hgb hlb hgf hlf (fun u b => ⟨(slotsFrom (g1 g (encU D u) b) 497 0).toArray, []⟩) ?asn ?bdy ?fin
  case ev => simp only [Act.eval, Array.getD_eq_getD_getElem?, h200, Option.getD_some]
  case asn => exact fun l u W K hK => asg_wp g D l u W K hK
  case bdy =>
    intro l pre u ub W hgi hub hl hlen hN
    have := outs_small (E := E) (ah := ah) hb hD
    exact bod_wp g D l gb lb _ lim ub pre u W e36 e37 hgi hub hl (by omega) hN hl16
  case fin =>
    intro W h1 h2 h3 h4 h5 h6 h7
    obtain ⟨q1, q2⟩ := hfin W h1 h2 h3 h4 h5 h6 h7
    exact ⟨q1, wpIn_exit q2⟩
end Go.Proofs.Ybulkdsao
