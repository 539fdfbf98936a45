/-
  'var pool []span; for i := 0; i+1 < len(pts); i += 2 { pool = append(pool, span{pts[i], pts[i+1]}) }'.
-/
import Derived.Test.YbulkdsaoSeg
import Derived.Deep.RegionHeld3
import Derived.Test.YbulkdsaoUnits
namespace Go.Proofs.Ybulkdsao
open Go.ChangeShapes Go.WideShapes Go.ChangeAt Go.RowKit
set_option linter.unusedVariables false

theorem Yba.info29 : (Yba.prog.info? 29).map (fun i => (i.zero, i.size, i.bytes)) = some (some (.agg #[.int .i64 0, .int .i64 0]), 2, 16) := by kernel_rfl

/-- The pool's cells. -/
def spansTo (P : Nat → Int) (k : Nat) : List Value := (List.range k).flatMap fun j => [.int .i64 (P (2 * j)), .int .i64 (P (2 * j + 1))]
theorem spansTo_succ (P : Nat → Int) (k : Nat) : spansTo P (k + 1) = spansTo P k ++ [.int .i64 (P (2 * k)), .int .i64 (P (2 * k + 1))] := by simp [spansTo, List.range_succ]

set_option maxRecDepth 100000 in
set_option maxHeartbeats 4000000 in
theorem st11 (Q : Exit → Act → World → Prop) (t : Array Value) (ds : List Deferred) (w : World) (x : Fx) (m pcap PB : Nat) (P : Nat → Int) (hA : At t x)
    (h17 : x.s17 = .slice (some ⟨PB, 0, none⟩) m pcap) (h20 : x.s20 = .slice none 0 0) (hm : m ≤ 4096) (hP : ∀ i, i < m → w.cell? ⟨PB, i, none⟩ = some (.int .i64 (P i)))
    (hQ : ∀ t' v w', At t' { x with s20 := v } → Below w.heap.size w w' → w'.ownsRow w.heap.size 29 2 v (m / 2) (spansTo P (m / 2)) → Code.wp Yba.prog (rest 12) Q ⟨t', ds⟩ w') :
    Code.wp Yba.prog (rest 11) Q ⟨t, ds⟩ w := by
  have hmo : Yba.prog.follows .mixedOrders = true := by kernel_rfl
  obtain ⟨s0, s1, s2, s3, s4, s5, s13, s14, s15, s16, s17, s20, s22, s23, s24, s25, s26, s33, s34, s35, s36, s37, s39, s49⟩ := x
  obtain ⟨g, hg, rfl⟩ := hA.lit
  dsimp only at hg h17 h20
  subst h17 h20
  refine rest_step 11 (by kernel_rfl) ?_
  conv => arg 2; whnf
  simp only [slotsFrom, Nat.reduceAdd, hg]
  clear hA hg
  have HP := hideIt hP
  have HQ := hideIt hQ
  clear hP hQ
  go_wp2
  go_loopw [20, 21] (fun v i wr => ∃ k : Nat, k ≤ m / 2 ∧ i = .int .i64 ((2 * k : Nat) : Int) ∧ wr.ownsRow w.heap.size 29 2 v k (spansTo P k) ∧ Below w.heap.size w wr) (fun _ i _ => m - (intOf i).toNat)
  case atStart => exact ⟨0, Nat.zero_le _, rfl, World.ownsRow_nil _ _ _ _, Below.refl _ _⟩
  case round =>
    obtain ⟨k, hk, rfl, hown, hbw⟩ := hrel
    obtain ⟨q, hq⟩ : ∃ q, 2 * k = q := ⟨_, rfl⟩
    have HQ2 := hideIt hq
    rw [hq]
    obtain ⟨r, hr⟩ : ∃ r, q + 1 = r := ⟨_, rfl⟩
    have HR := hideIt hr
    obtain ⟨q2, hq2⟩ : ∃ q2, q + 2 = q2 := ⟨_, rfl⟩
    have HQ22 := hideIt hq2
    have wq : IntKind.i64.wrap ((q : Int) + 1) = (r : Int) := by rw [wrap_small] <;> omega
    have wq2 : IntKind.i64.wrap ((q : Int) + 2) = (q2 : Int) := by rw [wrap_small] <;> omega
    have HOWN := hideIt hown
    have HBW := hideIt hbw
    have BS := HBW.out.size
    by_cases hlt : r < m
    · have hp1 := HP.out q (by omega)
      have hp2 := HP.out r hlt
      have hb1 := block_lt_of_cell hp1
      have hc1 : wr.cell? ⟨PB, q, none⟩ = some (.int .i64 (P q)) := (hbw.cell (p := ⟨PB, q, none⟩) hb1).trans hp1
      have hc2 : wr.cell? ⟨PB, r, none⟩ = some (.int .i64 (P r)) := (hbw.cell (p := ⟨PB, r, none⟩) hb1).trans hp2
      obtain ⟨ia, hia, hz0a, hz1a, hz2a⟩ := info_parts Yba.info29
      have HIa := hideIt hia
      have HZ0a := hideIt hz0a
      have HZ1a := hideIt hz1a
      have HZ2a := hideIt hz2a
      clear hia hz0a hz1a hz2a
      have C1 := hideIt hc1
      have C2 := hideIt hc2
      have hki1 : (r : Int) < (m : Int) := by omega
      have hki2 : (q : Int) < (m : Int) := by omega
      have hki0 : (0 : Int) ≤ (q : Int) := by omega
      have hki3 : (0 : Int) ≤ (r : Int) := by omega
      have hkm : k ≤ 4096 := by omega
      clear hown hbw hp1 hp2 hq hr hq2
      go_wp2
      go_region_held3 (fun W => W.cell? ⟨PB, q, none⟩ = some (.int .i64 (P q)) ∧ W.cell? ⟨PB, r, none⟩ = some (.int .i64 (P r))) (first | exact ⟨ks1, ks2⟩ | go_keep)
        (first
          | (refine step_append_own rfl (.tmp 113) (.tmp 124) 27 rfl w.heap.size 29 ia _ 2 16 Yba.underlying27 HIa.out HZ0a.out HZ1a.out HZ2a.out rfl (by decide) u20 k (spansTo P k) rfl (ownH _ HOWN.out rfl) ⟨wr.heap.size, 0, none⟩ 1 1 [.int .i64 (P q), .int .i64 (P r)] rfl rfl ?cc ?dd ?ee ?ff ?gg ?_
             case cc => exact newH wr _ _ rfl
             case dd => (intro u hu; simp at hu; rcases hu with rfl | rfl <;> rfl)
             case ee => (unfold maxLen; omega)
             case ff => omega
             case gg => (have := HBW.out.size; simp; omega)
             intro v' w1 hown1 hgrow1
             have ks1 : w1.cell? ⟨PB, q, none⟩ = some (.int .i64 (P q)) := keepH _ C1.out hb1 HOWN.out hgrow1 rfl
             have ks2 : w1.cell? ⟨PB, r, none⟩ = some (.int .i64 (P r)) := keepH _ C2.out hb1 HOWN.out hgrow1 rfl))
      go_wp2
      go_roundw
      case rel =>
        have h1 := HQ2.out
        have h2 := HR.out
        have h3 := HQ22.out
        exact ⟨k + 1, by omega, by rw [show 2 * (k + 1) = q2 by omega], by rw [spansTo_succ, h1, h2]; exact hown1, belowH _ HBW.out BS hgrow1 (fun j hj => (HOWN.out.lt j hj).1) rfl ⟨rfl, rfl, rfl⟩⟩
      case measure =>
        have h3 := HQ22.out
        have h2 := HR.out
        simp [intOf]; omega
    · have hki1 : ¬ ((r : Int) < (m : Int)) := by omega
      obtain rfl : k = m / 2 := by omega
      clear hown hbw hq hr hq2
      go_wp2
      exact HQ.out _ _ _ ⟨rfl, rfl, rfl, rfl, rfl, rfl, rfl, rfl, rfl, rfl, rfl, rfl, rfl, rfl, rfl, rfl, rfl, rfl, rfl, rfl, rfl, rfl, rfl, rfl, rfl⟩ HBW.out HOWN.out
end Go.Proofs.Ybulkdsao
