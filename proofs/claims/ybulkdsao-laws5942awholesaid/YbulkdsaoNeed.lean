/-
  The contract of (*fetcher).needs (26).
-/
import Derived.Test.YbulkdsaoTime
namespace Go.Proofs.Ybulkdsao
open Go.ChangeShapes Go.WideShapes Go.ChangeAt Go.RowKit Go.Sort
set_option linter.unusedVariables false

/-- What of a viewer's memory these functions read. -/
structure Vw (w : World) (vb : Nat) (st pos b : Int) : Prop where
  s : w.cell? ⟨vb, 0, none⟩ = some (.int .i64 st)
  p : w.cell? ⟨vb, 1, none⟩ = some (.int .i64 pos)
  b0 : w.cell? ⟨vb, 2, none⟩ = some (.int .u64 0)
  b1 : w.cell? ⟨vb, 3, none⟩ = some (.int .i64 b)
  b2 : w.cell? ⟨vb, 4, none⟩ = some (.pointer none)

theorem Vw.grow {w : World} {vb : Nat} {st pos b : Int} (h : Vw w vb st pos b) (n : Nat) (os : Array Obj) : Vw (grow (w.drewN n) os) vb st pos b :=
  ⟨cell_grown (block_lt_of_cell h.s) h.s n os, cell_grown (block_lt_of_cell h.p) h.p n os, cell_grown (block_lt_of_cell h.b0) h.b0 n os, cell_grown (block_lt_of_cell h.b1) h.b1 n os, cell_grown (block_lt_of_cell h.b2) h.b2 n os⟩
theorem Fix.grow {w : World} {fb tb : Nat} {sg sz ah : Int} (h : Fix w fb tb sg sz ah) (n : Nat) (os : Array Obj) : Fix (grow (w.drewN n) os) fb tb sg sz ah :=
  ⟨cell_grown (block_lt_of_cell h.ft) h.ft n os, cell_grown (block_lt_of_cell h.fa) h.fa n os, cell_grown (block_lt_of_cell h.ts) h.ts n os, cell_grown (block_lt_of_cell h.tg) h.tg n os⟩

/-- A callee that draws alone is one of the class. -/
theorem grown_of_drew {P : Program} {f : FuncId} {args : Array Value} {W : World} {v : Value} (h : Calls P f args W fun e w' => e = .returned v ∧ ∃ n, w' = W.drewN n) :
    Calls P f args W fun e w' => e = .returned v ∧ ∃ q os', w' = grow (W.drewN q) os' :=
  h.mono fun _ _ ⟨he, n, hn⟩ => ⟨he, n, #[], by rw [grow_empty]; exact hn⟩
theorem grown_of_same {P : Program} {f : FuncId} {args : Array Value} {W : World} {v : Value} (h : Calls P f args W fun e w' => e = .returned v ∧ w' = W) :
    Calls P f args W fun e w' => e = .returned v ∧ ∃ q os', w' = grow (W.drewN q) os' :=
  h.mono fun _ _ ⟨he, hn⟩ => ⟨he, 0, #[], by rw [grow_empty]; exact hn⟩

theorem wrap_small (n : Int) (h0 : -4611686018427387904 ≤ n) (h1 : n ≤ 4611686018427387904) : IntKind.i64.wrap n = n := by
  simp [IntKind.wrap, IntKind.bits, IntKind.signed]
  split <;> omega

theorem fw_zero' : fw 0 = 0 := fw_zero

/-- A viewer's need of segment k. -/
def needL (sg st b k : Int) : Int := -b - (k - st) * sg

set_option maxRecDepth 100000 in
set_option maxHeartbeats 1000000 in
theorem needs_any (fb tb vb : Nat) (st pos b k sg sz ah : Int) (hb : Bds sg sz) (hk0 : 0 ≤ k) (hk1 : k ≤ 400) (hs0 : -10 ≤ st) (hs1 : st ≤ 400) (hb0 : -200 ≤ b) (hb1 : b ≤ 200) (w : World)
    (hw : Fix w fb tb sg sz ah) (hd : w.cell? ⟨tb, 3, none⟩ = some (.float .f64 (fw sz))) (hv : Vw w vb st pos b) :
    Calls Yba.prog 26 #[.pointer (some ⟨fb, 0, none⟩), .pointer (some ⟨vb, 0, none⟩), .int .i64 k, .float .f64 0, .agg #[.int .u64 0, .int .i64 0, .pointer none]] w
      fun e w' => e = .returned (.float .f64 (fw (needL sg st b k))) ∧ ∃ q os, w' = grow (w.drewN q) os := by
  have hmo : Yba.prog.follows .mixedOrders = true := by kernel_rfl
  obtain ⟨m0, m1⟩ := mul_bd (k := k - st) (by omega) (by omega) hb.g0 hb.g1
  have HSUB := hideIt (fun w => sub_any 0 b (by omega) (by omega) (by omega) (by omega) w)
  have HSEC := hideIt (fun w => secs_any (0 - b) (by omega) (by omega) w)
  rw [Int.zero_sub] at HSUB HSEC
  have f1 := fun (w : World) => run_float_arith (P := Yba.prog) w .add 32 .f64 _ _ _ (fw_add (-b) 0 (by omega) (by omega) (by omega))
  rw [Int.add_zero, fw_zero'] at f1
  have f2 := fun (w : World) => run_float_arith (P := Yba.prog) w .sub 32 .f64 _ _ _ (fw_sub (-b) ((k - st) * sg) (by omega) (by omega) (by omega))
  have HBEG := hideIt (fun w => begins_any (k - st) sg (by omega) (by omega) hb.g0 hb.g1 w)
  have HRATE := hideIt (fun w h1 h2 => rate_any tb sz hb.z0 hb.z1 w h1 h2)
  have hwr : IntKind.i64.wrap (k - st) = k - st := wrap_small _ (by omega) (by omega)
  have HB := hideIt hb
  unfold needL
  generalize fw (-b - (k - st) * sg) = res at f2 ⊢
  generalize fw ((k - st) * sg) = beg at f2 HBEG
  generalize fw (-b) = nb at f1 f2 HSEC
  generalize fw 1 = one at HRATE HBEG
  generalize (-b) * 1000000000 = dd at HSUB HSEC
  clear m0 m1 hb
  go_enter Yba.func26, Yba.ntmps26
  go_wp2_with fail
  obtain ⟨wq, hwq⟩ : ∃ wq, w.alloc (.cells #[.int .u64 0, .int .i64 0, .pointer none] 45) = wq := ⟨_, rfl⟩
  rw [hwq]
  have n0 : wq.cell? ⟨w.heap.size, 0, none⟩ = some (.int .u64 0) := by rw [← hwq]; simp
  have n1 : wq.cell? ⟨w.heap.size, 1, none⟩ = some (.int .i64 0) := by rw [← hwq]; simp
  have n2 : wq.cell? ⟨w.heap.size, 2, none⟩ = some (.pointer none) := by rw [← hwq]; simp
  have G0 : Hid (∃ os, wq = grow w os) := ⟨#[.cells #[.int .u64 0, .int .i64 0, .pointer none] 45], by rw [← hwq]; rfl⟩
  have hwq' : wq = grow (w.drewN 0) #[.cells #[.int .u64 0, .int .i64 0, .pointer none] 45] := by rw [← hwq]; rfl
  have F0 : Fix wq fb tb sg sz ah := by rw [hwq']; exact hw.grow _ _
  have D0 : wq.cell? ⟨tb, 3, none⟩ = some (.float .f64 (fw sz)) := by rw [hwq']; exact cell_grown (block_lt_of_cell hd) hd _ _
  have V0 : Vw wq vb st pos b := by rw [hwq']; exact hv.grow _ _
  clear hwq hwq' hw hd hv
  generalize hNN : w.heap.size = N at n0 n1 n2 ⊢
  have HNN := hideIt hNN
  clear hNN
  have a0 := fun n os => cell_grown (block_lt_of_cell n0) n0 n os
  have a1 := fun n os => cell_grown (block_lt_of_cell n1) n1 n os
  have a2 := fun n os => cell_grown (block_lt_of_cell n2) n2 n os
  have c0 := fun n os => (F0.grow n os).ft
  have c1 := fun n os => (F0.grow n os).ts
  have c2 := fun n os => (F0.grow n os).tg
  have c3 := fun n os => cell_grown (block_lt_of_cell D0) D0 n os
  have d0 := fun n os => (V0.grow n os).s
  have d2 := fun n os => (V0.grow n os).b0
  have d3 := fun n os => (V0.grow n os).b1
  have d4 := fun n os => (V0.grow n os).b2
  have HC1 := hideIt c1
  have HC3 := hideIt c3
  clear n0 n1 n2 F0 D0 V0 c3
  go_quiet_grown (first | (go_at_call 42; refine Calls.grown_of (HSUB.out _)) | (go_at_call 43; refine Calls.grown_of (grown_of_same (HSEC.out _))) | (go_at_call 45; refine Calls.grown_of (grown_of_drew (HRATE.out _ (HC1.out _ _) (HC3.out _ _)))) | (go_at_call 44; refine Calls.grown_of (grown_of_same (HBEG.out _))))
  go_wp2
  go_ret
  obtain ⟨os, rfl⟩ := G0.out
  exact ⟨rfl, nq, os ++ osq, by rw [← grow_grow]; rfl⟩
end Go.Proofs.Ybulkdsao
