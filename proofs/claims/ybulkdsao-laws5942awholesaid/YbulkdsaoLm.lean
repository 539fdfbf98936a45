/-
  The comparison of got and want.
-/
import Derived.Test.YbulkdsaoLh
import Derived.Test.YbulkdsaoNp
namespace Go.Proofs.Ybulkdsao
open Go.ChangeShapes Go.WideShapes Go.ChangeAt Go.RowKit
set_option linter.unusedVariables false

/-- A row of units, read. -/
def Units (W : World) (v : Value) (D : Vd) (L : List (Nat × Int × Int)) : Prop :=
  ∃ a b cap, v = .slice a L.length cap ∧ L.length ≤ cap ∧ (0 < L.length → a = some ⟨b, 0, none⟩) ∧ ∀ q (h : q < L.length), W.cell? ⟨b, q * 3, none⟩ = some (.int .i64 L[q].2.1) ∧ W.cell? ⟨b, q * 3 + 1, none⟩ = some (.int .i64 L[q].2.2) ∧
    W.cell? ⟨b, q * 3 + 2, none⟩ = some (.pointer (some ⟨D.vb L[q].1, 0, none⟩))

theorem cellsUs_get (D : Vd) (L : List (Nat × Int × Int)) : ∀ i (h : i < L.length), (cellsUs D L)[i * 3]? = some (.int .i64 L[i].2.1) ∧ (cellsUs D L)[i * 3 + 1]? = some (.int .i64 L[i].2.2) ∧ (cellsUs D L)[i * 3 + 2]? = some (.pointer (some ⟨D.vb L[i].1, 0, none⟩)) := by
  induction L with
  | nil => intro i h; simp at h
  | cons y L ih =>
    intro i h
    have e : cellsUs D (y :: L) = .int .i64 y.2.1 :: .int .i64 y.2.2 :: .pointer (some ⟨D.vb y.1, 0, none⟩) :: cellsUs D L := by simp [cellsUs, cellsU]
    rw [e]
    cases i with
    | zero => exact ⟨rfl, rfl, rfl⟩
    | succ i =>
      have := ih i (by simpa using h)
      rw [show (i + 1) * 3 = i * 3 + 3 by omega, show i * 3 + 3 + 1 = i * 3 + 1 + 3 by omega, show i * 3 + 3 + 2 = i * 3 + 2 + 3 by omega]
      simpa using this

theorem Units.of {W : World} {N : Nat} {v : Value} {D : Vd} {L : List (Nat × Int × Int)} (h : W.ownsRow N 92 3 v L.length (cellsUs D L)) : Units W v D L := by
  rcases h.2 with ⟨rfl, h0⟩ | ⟨g, cap, cur, rfl, hbase, hblk, h2, h3, h4, h5⟩
  · exact ⟨none, 0, 0, by rw [h0], by omega, fun h => by omega, fun q hq => by omega⟩
  · refine ⟨_, g, cap, rfl, h2, fun _ => rfl, fun q hq => ?_⟩
    have cell : ∀ j u, (cellsUs D L)[j]? = some u → W.cell? ⟨g, j, none⟩ = some u := fun j u hj => by
      have := h.cells (g := g) rfl j u hj
      rwa [Addr.add_lit, Nat.zero_add] at this
    obtain ⟨c0, c1, c2⟩ := cellsUs_get D L q hq
    exact ⟨cell _ _ c0, cell _ _ c1, cell _ _ c2⟩

theorem Units.take {W : World} {v : Value} {D : Vd} {L : List (Nat × Int × Int)} {a : Option Addr} {b cap m : Nat} (hm : m ≤ L.length) (hc : L.length ≤ cap) (ha : 0 < m → a = some ⟨b, 0, none⟩) (h : ∀ q (h : q < L.length), W.cell? ⟨b, q * 3, none⟩ = some (.int .i64 L[q].2.1) ∧ W.cell? ⟨b, q * 3 + 1, none⟩ = some (.int .i64 L[q].2.2) ∧
    W.cell? ⟨b, q * 3 + 2, none⟩ = some (.pointer (some ⟨D.vb L[q].1, 0, none⟩))) : Units W (.slice a m cap) D (L.take m) := by
  have hl : (L.take m).length = m := by simp; omega
  refine ⟨a, b, cap, by rw [hl], by omega, fun h => ha (by omega), fun q hq => ?_⟩
  have := h q (by omega)
  simpa using this

set_option maxRecDepth 100000 in
set_option maxHeartbeats 1000000 in
theorem st29 (Q : Exit → Act → World → Prop) (t : Array Value) (ds : List Deferred) (w : World) (x : Fx) (D : Vd) (L : List (Nat × Int × Int)) (lb lim : Nat) (hA : At t x)
    (h36 : x.s36 = .pointer (some ⟨lb, 0, none⟩)) (hlb : w.cell? ⟨lb, 0, none⟩ = some (.int .i64 lim)) (hl16 : lim ≤ 16) (hL : L.length ≤ 70000) (hu : Units w x.s49 D L)
    (hQ : ∀ t' v, At t' { x with s49 := v } → Units w v D (cutAt lim L) → Code.wp Yba.prog (rest 30) Q ⟨t', ds⟩ w) :
    Code.wp Yba.prog (rest 29) Q ⟨t, ds⟩ w := by
  obtain ⟨a, b, cap, h49, hcap, hab, hce⟩ := hu
  obtain ⟨s0, s1, s2, s3, s4, s5, s13, s14, s15, s16, s17, s20, s22, s23, s24, s25, s26, s33, s34, s35, s36, s37, s39, s49⟩ := x
  obtain ⟨g, hg, rfl⟩ := hA.lit
  dsimp only at hg h36 h49
  subst h36 h49
  refine rest_step 29 (by kernel_rfl) ?_
  conv => arg 2; whnf
  simp only [slotsFrom, Nat.reduceAdd, hg]
  clear hA hg
  obtain ⟨n, hn⟩ : ∃ n, L.length = n := ⟨_, rfl⟩
  rw [hn]
  have HN := hideIt hn
  have HCE := hideIt hce
  have HQ := hideIt hQ
  have HAB := hideIt hab
  have hcn : n ≤ cap := by omega
  have hln : n ≤ 70000 := by omega
  clear hQ hce hab hcap hn hL
  by_cases c : lim = 0
  · have c0 : ¬ ((0 : Int) < (lim : Int)) := by omega
    have e : cutAt lim L = L := by unfold cutAt; rw [if_pos c]
    go_wp2
    have hn := HN.out
    exact HQ.out _ (.slice a n cap) (by rw [← hn]; exact ⟨rfl, rfl, rfl, rfl, rfl, rfl, rfl, rfl, rfl, rfl, rfl, rfl, rfl, rfl, rfl, rfl, rfl, rfl, rfl, rfl, rfl, rfl, rfl, rfl, rfl⟩) (by rw [e, ← hn]; exact ⟨a, b, cap, rfl, by omega, fun h => HAB.out (by omega), HCE.out⟩)
  · have c0 : (0 : Int) < (lim : Int) := by omega
    by_cases cc : lim < n
    · have c1 : (lim : Int) < (n : Int) := by omega
      have hn := HN.out
      have ha := HAB.out (by omega)
      subst ha
      have hlc : (lim : Int) ≤ (cap : Int) := by omega
      have hl0 : (0 : Int) ≤ (lim : Int) := by omega
      go_wp2
      refine HQ.out _ (.slice (some ⟨b, 0, none⟩) lim cap) (by rw [← hn]; exact ⟨rfl, rfl, rfl, rfl, rfl, rfl, rfl, rfl, rfl, rfl, rfl, rfl, rfl, rfl, rfl, rfl, rfl, rfl, rfl, rfl, rfl, rfl, rfl, rfl, rfl⟩) ?_
      unfold cutAt
      rw [if_neg c]
      exact Units.take (v := .slice none 0 0) (by omega) (by omega) (fun _ => rfl) HCE.out
    · have c1 : ¬ ((lim : Int) < (n : Int)) := by omega
      have e : cutAt lim L = L := by unfold cutAt; rw [if_neg c, List.take_of_length_le]; have := HN.out; omega
      go_wp2
      have hn := HN.out
      exact HQ.out _ (.slice a n cap) (by rw [← hn]; exact ⟨rfl, rfl, rfl, rfl, rfl, rfl, rfl, rfl, rfl, rfl, rfl, rfl, rfl, rfl, rfl, rfl, rfl, rfl, rfl, rfl, rfl, rfl, rfl, rfl, rfl⟩) (by rw [e, ← hn]; exact ⟨a, b, cap, rfl, by omega, fun h => HAB.out (by omega), HCE.out⟩)

set_option maxRecDepth 100000 in
set_option maxHeartbeats 1000000 in
theorem st30 (Q : Exit → Act → World → Prop) (t : Array Value) (ds : List Deferred) (w : World) (x : Fx) (D : Vd) (L : List (Nat × Int × Int)) (gb : Nat) (gv : Value) (hA : At t x)
    (h37 : x.s37 = .pointer (some ⟨gb, 0, none⟩)) (hgb : w.cell? ⟨gb, 0, none⟩ = some gv) (hL : L.length ≤ 70000) (hu : Units w x.s49 D L) (hg : Units w gv D L)
    (hQ : ∀ t' n, At t' x → Code.wp Yba.prog (rest 32) Q ⟨t', ds⟩ (w.drewN n)) :
    Code.wp Yba.prog (rest 30) Q ⟨t, ds⟩ w := by
  have hmo : Yba.prog.follows .mixedOrders = true := by kernel_rfl
  obtain ⟨a, b, cap, h49, hcap, hab, hce⟩ := hu
  obtain ⟨a2, b2, cap2, rfl, hcap2, hab2, hce2⟩ := hg
  obtain ⟨s0, s1, s2, s3, s4, s5, s13, s14, s15, s16, s17, s20, s22, s23, s24, s25, s26, s33, s34, s35, s36, s37, s39, s49⟩ := x
  obtain ⟨g, hg, rfl⟩ := hA.lit
  dsimp only at hg h37 h49
  subst h37 h49
  refine rest_step 30 (by kernel_rfl) ?_
  conv => arg 2; whnf
  simp only [slotsFrom, Nat.reduceAdd, hg]
  clear hA hg
  obtain ⟨n, hn⟩ : ∃ n, L.length = n := ⟨_, rfl⟩
  rw [hn] at hgb hcap hcap2 hab hab2 hL hQ ⊢
  have HN := hideIt hn
  have HCE := hideIt hce
  have HCE2 := hideIt hce2
  have HQ := hideIt hQ
  have HAB := hideIt hab
  have HAB2 := hideIt hab2
  have HGB := hideIt hgb
  clear hQ hce hab hce2 hab2 hn
  go_wp2
  refine rest_step 31 (by kernel_rfl) ?_
  conv => arg 2; whnf
  go_wp2
  clear hgb
  go_loopw [392] (fun i wr => ∃ q nn : Nat, q ≤ n ∧ i = .int .i64 q ∧ Hid (wr = w.drewN nn)) (fun i _ => n - (intOf i).toNat)
  case atStart => exact ⟨0, 0, Nat.zero_le _, rfl, rfl⟩
  case round =>
    obtain ⟨q, nn, hq, rfl, HW⟩ := hrel
    by_cases hlt : q < n
    · have hki : (q : Int) < (n : Int) := by omega
      have hki0 : (0 : Int) ≤ (q : Int) := by omega
      have hn := HN.out
      have ha := HAB.out (by omega)
      have ha2 := HAB2.out (by omega)
      subst ha ha2
      obtain ⟨c0, c1, c2⟩ := HCE.out q (by omega)
      obtain ⟨e0, e1, e2⟩ := HCE2.out q (by omega)
      have hqL : q < L.length := by omega
      obtain ⟨u, hu⟩ : ∃ u, L[q] = u := ⟨_, rfl⟩
      rw [hu] at c0 c1 c2 e0 e1 e2
      have k : ∀ {p : Addr} {v : Value}, w.cell? p = some v → wr.cell? p = some v := fun h => by rw [HW.out]; exact h
      have f0 := k c0
      have f1 := k c1
      have f2 := k c2
      have g0 := k e0
      have g1 := k e1
      have g2 := k e2
      have gg := k HGB.out
      clear c0 c1 c2 e0 e1 e2 k hn hu hqL
      have hnp := neq_ptr
      go_wp2
      go_quiet (fail)
      clear hnp
      go_wp2
      exact ⟨⟨q + 1, nn + nq, by omega, by go_num, by show _ = _; rw [HW.out, World.drewN_drewN]⟩, by simp [intOf]; omega⟩
    · obtain rfl : q = n := by omega
      go_wp2
      rw [HW.out]
      exact HQ.out _ nn ⟨rfl, rfl, rfl, rfl, rfl, rfl, rfl, rfl, rfl, rfl, rfl, rfl, rfl, rfl, rfl, rfl, rfl, rfl, rfl, rfl, rfl, rfl, rfl, rfl, rfl⟩
end Go.Proofs.Ybulkdsao
