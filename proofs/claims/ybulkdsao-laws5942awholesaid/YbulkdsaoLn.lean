/-
  The last comparisons.
-/
import Derived.Test.YbulkdsaoEq
import Derived.Test.YbulkdsaoLm
import Derived.Test.YbulkdsaoNq
namespace Go.Proofs.Ybulkdsao
open Go.ChangeShapes Go.WideShapes Go.ChangeAt Go.RowKit
set_option linter.unusedVariables false

set_option maxRecDepth 100000 in
set_option maxHeartbeats 1000000 in
theorem st32 (Q : Exit → Act → World → Prop) (t : Array Value) (ds : List Deferred) (w : World) (x : Fx) (fb nv np pcap cap2 vcap c33 b33 VB b1 b2 : Nat) (pa pa2 : Option Addr) (ps pe : Nat → Int) (hA : At t x)
    (h34 : x.s34 = .pointer (some ⟨fb, 0, none⟩)) (h22 : x.s22 = .slice pa2 np cap2) (h33 : x.s33 = .slice (some ⟨b33, 0, none⟩) nv c33) (hfp : w.cell? ⟨fb, 24, none⟩ = some (.slice pa np pcap)) (hfv : w.cell? ⟨fb, 23, none⟩ = some (.slice (some ⟨VB, 0, none⟩) nv vcap))
    (hn : np ≤ 4096) (h1 : 0 < np → pa = some ⟨b1, 0, none⟩) (h2 : 0 < np → pa2 = some ⟨b2, 0, none⟩)
    (s1 : ∀ j, j < np → w.cell? ⟨b1, j * 2, none⟩ = some (.int .i64 (ps j))) (e1 : ∀ j, j < np → w.cell? ⟨b1, j * 2 + 1, none⟩ = some (.int .i64 (pe j)))
    (s2 : ∀ j, j < np → w.cell? ⟨b2, j * 2, none⟩ = some (.int .i64 (ps j))) (e2 : ∀ j, j < np → w.cell? ⟨b2, j * 2 + 1, none⟩ = some (.int .i64 (pe j)))
    (hQ : ∀ t' n, At t' x → Code.wp Yba.prog (rest 33) Q ⟨t', ds⟩ (w.drewN n)) :
    Code.wp Yba.prog (rest 32) Q ⟨t, ds⟩ w := by
  have hmo : Yba.prog.follows .mixedOrders = true := by kernel_rfl
  have C := hideIt (equal_spans w np pcap cap2 b1 b2 pa pa2 ps pe hn h1 h2 s1 e1 s2 e2)
  clear h1 h2 s1 e1 s2 e2
  obtain ⟨s0, s1, s2, s3, s4, s5, s13, s14, s15, s16, s17, s20, s22, s23, s24, s25, s26, s33, s34, s35, s36, s37, s39, s49⟩ := x
  obtain ⟨g, hg, rfl⟩ := hA.lit
  dsimp only at hg h34 h22 h33
  subst h34 h22 h33
  refine rest_step 32 (by kernel_rfl) ?_
  conv => arg 2; whnf
  simp only [slotsFrom, Nat.reduceAdd, hg]
  clear hA hg
  have HQ := hideIt hQ
  clear hQ
  go_wp2_with fail
  refine C.out.mono ?_
  rintro e w1 ⟨rfl, n1, hw1⟩
  have hfv1 : w1.cell? ⟨fb, 23, none⟩ = some (.slice (some ⟨VB, 0, none⟩) nv vcap) := by rw [hw1]; exact hfv
  have HW1 := hideIt hw1
  clear hw1 C
  go_wp2
  rw [HW1.out]
  exact HQ.out _ n1 ⟨rfl, rfl, rfl, rfl, rfl, rfl, rfl, rfl, rfl, rfl, rfl, rfl, rfl, rfl, rfl, rfl, rfl, rfl, rfl, rfl, rfl, rfl, rfl, rfl, rfl⟩

set_option maxRecDepth 100000 in
set_option maxHeartbeats 1000000 in
theorem st33 (Q : Exit → Act → World → Prop) (t : Array Value) (ds : List Deferred) (w : World) (x : Fx) (fb vcap c33 c25 b25 b33 VB : Nat) (D : Vd) (hA : At t x)
    (h34 : x.s34 = .pointer (some ⟨fb, 0, none⟩)) (h33 : x.s33 = .slice (some ⟨b33, 0, none⟩) D.nv c33) (h25 : x.s25 = .slice (some ⟨b25, 0, none⟩) D.nv c25) (hfv : w.cell? ⟨fb, 23, none⟩ = some (.slice (some ⟨VB, 0, none⟩) D.nv vcap)) (hnv : D.nv ≤ 256)
    (el : ∀ i, i < D.nv → w.cell? ⟨VB, i, none⟩ = some (.pointer (some ⟨D.vb i, 0, none⟩))) (l33 : ∀ i, i < D.nv → w.cell? ⟨b33, i, none⟩ = some (.pointer (some ⟨D.vb i, 0, none⟩)))
    (hvb : ∀ i, i < D.nv → w.heap[D.vb i]? = some (.cells (vcells (D.st i) (D.pos i) (D.b i)).toArray 49 (0, 0))) (hv : ∀ i, i < D.nv → ∀ o u, (vcells (D.st i) (D.pos i) (D.b i))[o]? = some u → w.cell? ⟨b25, i * 10 + o, none⟩ = some u)
    (hQ : ∀ t' n, At t' x → Code.wp Yba.prog (rest 34) Q ⟨t', ds⟩ (w.drewN n)) :
    Code.wp Yba.prog (rest 33) Q ⟨t, ds⟩ w := by
  have hmo : Yba.prog.follows .mixedOrders = true := by kernel_rfl
  obtain ⟨s0, s1, s2, s3, s4, s5, s13, s14, s15, s16, s17, s20, s22, s23, s24, s25, s26, s33, s34, s35, s36, s37, s39, s49⟩ := x
  obtain ⟨g, hg, rfl⟩ := hA.lit
  dsimp only at hg h34 h33 h25
  subst h34 h33 h25
  refine rest_step 33 (by kernel_rfl) ?_
  conv => arg 2; whnf
  simp only [slotsFrom, Nat.reduceAdd, hg]
  clear hA hg
  have HQ := hideIt hQ
  have HFV := hideIt hfv
  have HEL := hideIt el
  have HL := hideIt l33
  have HVB := hideIt hvb
  have HV := hideIt hv
  obtain ⟨nv, hnn⟩ : ∃ nv, D.nv = nv := ⟨_, rfl⟩
  rw [hnn] at hnv HQ HFV ⊢
  have HNN := hideIt hnn
  clear hQ hfv el l33 hvb hv hnn
  go_wp2
  go_loopw [439] (fun i wr => ∃ q nn : Nat, q ≤ nv ∧ i = .int .i64 q ∧ Hid (wr = w.drewN nn)) (fun i _ => nv - (intOf i).toNat)
  case atStart => exact ⟨0, 0, Nat.zero_le _, rfl, rfl⟩
  case round =>
    obtain ⟨q, nn, hq, rfl, HW⟩ := hrel
    by_cases hlt : q < nv
    · have hki : (q : Int) < (nv : Int) := by omega
      have hki0 : (0 : Int) ≤ (q : Int) := by omega
      have hqD : q < D.nv := by rw [HNN.out]; exact hlt
      have k : ∀ {p : Addr} {v : Value}, w.cell? p = some v → wr.cell? p = some v := fun h => by rw [HW.out]; exact h
      have f0 := k HFV.out
      have f1 := k (HEL.out q hqD)
      have f2 := k (HL.out q hqD)
      have hblk := HVB.out q hqD
      have hv := HV.out
      have x0 : wr.cell? ⟨D.vb q, 0, none⟩ = some (.int .i64 (D.st q)) := k (by rw [cell_of_row _ _ _ _ _ _ hblk]; rfl)
      have x1 : wr.cell? ⟨D.vb q, 1, none⟩ = some (.int .i64 (D.pos q)) := k (by rw [cell_of_row _ _ _ _ _ _ hblk]; rfl)
      have x2 : wr.cell? ⟨D.vb q, 2, none⟩ = some (.int .u64 0) := k (by rw [cell_of_row _ _ _ _ _ _ hblk]; rfl)
      have x3 : wr.cell? ⟨D.vb q, 3, none⟩ = some (.int .i64 (D.b q)) := k (by rw [cell_of_row _ _ _ _ _ _ hblk]; rfl)
      have x4 : wr.cell? ⟨D.vb q, 4, none⟩ = some (.pointer none) := k (by rw [cell_of_row _ _ _ _ _ _ hblk]; rfl)
      have x5 : wr.cell? ⟨D.vb q, 5, none⟩ = some (.float .f64 0) := k (by rw [cell_of_row _ _ _ _ _ _ hblk]; rfl)
      have x6 : wr.cell? ⟨D.vb q, 6, none⟩ = some (.int .i64 0) := k (by rw [cell_of_row _ _ _ _ _ _ hblk]; rfl)
      have x7 : wr.cell? ⟨D.vb q, 7, none⟩ = some (.int .u64 0) := k (by rw [cell_of_row _ _ _ _ _ _ hblk]; rfl)
      have x8 : wr.cell? ⟨D.vb q, 8, none⟩ = some (.int .i64 0) := k (by rw [cell_of_row _ _ _ _ _ _ hblk]; rfl)
      have x9 : wr.cell? ⟨D.vb q, 9, none⟩ = some (.pointer none) := k (by rw [cell_of_row _ _ _ _ _ _ hblk]; rfl)
      have y0 : wr.cell? ⟨b25, q * 10, none⟩ = some (.int .i64 (D.st q)) := k (hv q hqD 0 (.int .i64 (D.st q)) rfl)
      have y1 : wr.cell? ⟨b25, q * 10 + 1, none⟩ = some (.int .i64 (D.pos q)) := k (hv q hqD 1 (.int .i64 (D.pos q)) rfl)
      have y2 : wr.cell? ⟨b25, q * 10 + 2, none⟩ = some (.int .u64 0) := k (hv q hqD 2 (.int .u64 0) rfl)
      have y3 : wr.cell? ⟨b25, q * 10 + 3, none⟩ = some (.int .i64 (D.b q)) := k (hv q hqD 3 (.int .i64 (D.b q)) rfl)
      have y4 : wr.cell? ⟨b25, q * 10 + 4, none⟩ = some (.pointer none) := k (hv q hqD 4 (.pointer none) rfl)
      have y5 : wr.cell? ⟨b25, q * 10 + 5, none⟩ = some (.float .f64 0) := k (hv q hqD 5 (.float .f64 0) rfl)
      have y6 : wr.cell? ⟨b25, q * 10 + 6, none⟩ = some (.int .i64 0) := k (hv q hqD 6 (.int .i64 0) rfl)
      have y7 : wr.cell? ⟨b25, q * 10 + 7, none⟩ = some (.int .u64 0) := k (hv q hqD 7 (.int .u64 0) rfl)
      have y8 : wr.cell? ⟨b25, q * 10 + 8, none⟩ = some (.int .i64 0) := k (hv q hqD 8 (.int .i64 0) rfl)
      have y9 : wr.cell? ⟨b25, q * 10 + 9, none⟩ = some (.pointer none) := k (hv q hqD 9 (.pointer none) rfl)
      clear k hblk hv
      have hnp := neq_ptr
      have hnv49 := neq_viewer
      go_wp2
      go_quiet (fail)
      clear hnp hnv49
      go_wp2
      exact ⟨⟨q + 1, nn + nq, by omega, by go_num, by show _ = _; rw [HW.out, World.drewN_drewN]⟩, by simp [intOf]; omega⟩
    · obtain rfl : q = nv := by omega
      go_wp2
      rw [HW.out]
      exact HQ.out _ nn ⟨rfl, rfl, rfl, rfl, rfl, rfl, rfl, rfl, rfl, rfl, rfl, rfl, rfl, rfl, rfl, rfl, rfl, rfl, rfl, rfl, rfl, rfl, rfl, rfl, rfl⟩

set_option maxRecDepth 100000 in
set_option maxHeartbeats 1000000 in
theorem st34 (Q : Exit → Act → World → Prop) (t : Array Value) (ds : List Deferred) (w : World) (x : Fx) (fb c33 b33 : Nat) (D : Vd) (hA : At t x)
    (h34 : x.s34 = .pointer (some ⟨fb, 0, none⟩)) (h33 : x.s33 = .slice (some ⟨b33, 0, none⟩) D.nv c33) (hnv : D.nv ≤ 256) (l33 : ∀ i, i < D.nv → w.cell? ⟨b33, i, none⟩ = some (.pointer (some ⟨D.vb i, 0, none⟩))) (hcu : CurOk w fb D)
    (hQ : ∀ t' n, t'.size = 497 → t'[12]? = some (.bool true) → Q .ret ⟨t', ds⟩ (w.drewN n)) :
    Code.wp Yba.prog (rest 34) Q ⟨t, ds⟩ w := by
  have hmo : Yba.prog.follows .mixedOrders = true := by kernel_rfl
  obtain ⟨CB, cap, ca, hc, hcb⟩ : ∃ (CB cap : Nat) (ca : Option Addr), w.cell? ⟨fb, 45, none⟩ = some (.slice ca D.nv cap) ∧ (∀ j, j < D.nv → ca = some ⟨CB, 0, none⟩ ∧ w.cell? ⟨CB, j * 3, none⟩ = some (.pointer (some ⟨D.vb j, 0, none⟩))) := by
    obtain ⟨CB, cap, h⟩ := hcu
    rcases h with ⟨h0, h1⟩ | ⟨h1, h2⟩
    · exact ⟨0, 0, none, by rw [h0]; exact h1, fun j hj => by omega⟩
    · exact ⟨CB, cap, _, h1, fun j hj => ⟨rfl, h2 j hj⟩⟩
  obtain ⟨s0, s1, s2, s3, s4, s5, s13, s14, s15, s16, s17, s20, s22, s23, s24, s25, s26, s33, s34, s35, s36, s37, s39, s49⟩ := x
  obtain ⟨g, hg, rfl⟩ := hA.lit
  dsimp only at hg h34 h33
  subst h34 h33
  refine rest_step 34 (by kernel_rfl) ?_
  conv => arg 2; whnf
  simp only [slotsFrom, Nat.reduceAdd, hg]
  clear hA hg
  have HQ := hideIt hQ
  have HC := hideIt hc
  have HL := hideIt l33
  have HCB := hideIt hcb
  obtain ⟨nv, hnn⟩ : ∃ nv, D.nv = nv := ⟨_, rfl⟩
  rw [hnn] at hnv HC hc ⊢
  have HNN := hideIt hnn
  clear hQ l33 hcb hnn hcu
  go_wp2
  refine rest_step 35 (by kernel_rfl) ?_
  conv => arg 2; whnf
  go_wp2
  clear hc
  go_loopw [479] (fun i wr => ∃ q nn : Nat, q ≤ nv ∧ i = .int .i64 q ∧ Hid (wr = w.drewN nn)) (fun i _ => nv - (intOf i).toNat)
  case atStart => exact ⟨0, 0, Nat.zero_le _, rfl, rfl⟩
  case round =>
    obtain ⟨q, nn, hq, rfl, HW⟩ := hrel
    by_cases hlt : q < nv
    · have hki : (q : Int) < (nv : Int) := by omega
      have hki0 : (0 : Int) ≤ (q : Int) := by omega
      have hqD : q < D.nv := by rw [HNN.out]; exact hlt
      have k : ∀ {p : Addr} {v : Value}, w.cell? p = some v → wr.cell? p = some v := fun h => by rw [HW.out]; exact h
      obtain ⟨hca, hcc⟩ := HCB.out q hqD
      subst hca
      have f0 := k HC.out
      have f1 := k hcc
      have f2 := k (HL.out q hqD)
      clear k hcc
      have hnp := neq_ptr
      go_wp2
      go_quiet (fail)
      clear hnp
      go_wp2
      exact ⟨⟨q + 1, nn + nq, by omega, by go_num, by show _ = _; rw [HW.out, World.drewN_drewN]⟩, by simp [intOf]; omega⟩
    · obtain rfl : q = nv := by omega
      go_wp2
      refine rest_step 36 (by kernel_rfl) ?_
      conv => arg 2; whnf
      go_wp2
      conv => arg 2; whnf
      go_wp2
      rw [HW.out]
      exact HQ.out _ nn rfl rfl
end Go.Proofs.Ybulkdsao
