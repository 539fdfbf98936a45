/-
  The contracts of (time.Time).Add (7) and Sub (42), at times that lie whole seconds from the zero time (wall 0, no location).
-/
import Derived.Test.YbulkdsaoFl
import Derived.Shelf.SlSortCmp.QuietGrown
namespace Go.Proofs.Ybulkdsao
open Go.ChangeShapes Go.WideShapes Go.ChangeAt Go.RowKit Go.Sort
set_option linter.unusedVariables false

/-- The time s seconds behind the zero time. -/
def tm (s : Int) : Value := .agg #[.int .u64 0, .int .i64 s, .pointer none]

theorem k1 : bits .and .u64 0 1073741823 = 0 := by decide
theorem k2 : bits .andNot .u64 0 1073741823 = 0 := by decide
theorem k3 : bits .or .u64 0 0 = 0 := by decide
theorem k4 : bits .and .u64 0 9223372036854775808 = 0 := by decide
theorem k5 : bits .and .u64 0 0 = 0 := by decide

theorem nsec_any (p : Nat) (w : World) (h0 : w.cell? ⟨p, 0, none⟩ = some (.int .u64 0)) :
    Calls Yba.prog 17 #[.pointer (some ⟨p, 0, none⟩)] w fun e w' => e = .returned (.int .i32 0) ∧ w' = w := by
  have e1 := k1
  go_enter Yba.func17, Yba.ntmps17
  go_wp2
  go_ret
  exact ⟨rfl, rfl⟩

theorem sec_any (p : Nat) (s : Int) (w : World) (h0 : w.cell? ⟨p, 0, none⟩ = some (.int .u64 0)) (h1 : w.cell? ⟨p, 1, none⟩ = some (.int .i64 s)) :
    Calls Yba.prog 40 #[.pointer (some ⟨p, 0, none⟩)] w fun e w' => e = .returned (.int .i64 s) ∧ w' = w := by
  have e1 := k4
  go_enter Yba.func40, Yba.ntmps40
  go_wp2
  go_ret
  exact ⟨rfl, rfl⟩

theorem addSec_any (p : Nat) (s b : Int) (hs0 : -1000 ≤ s) (hs1 : s ≤ 1000) (hb0 : -1000 ≤ b) (hb1 : b ≤ 1000) (w : World) (h0 : w.cell? ⟨p, 0, none⟩ = some (.int .u64 0)) (h1 : w.cell? ⟨p, 1, none⟩ = some (.int .i64 s))
    (hf : w.frozen? ⟨p, 1, none⟩ = false) :
    Calls Yba.prog 18 #[.pointer (some ⟨p, 0, none⟩), .int .i64 b] w fun e w' => e = .returned (.tuple #[]) ∧ w' = w.setCell ⟨p, 1, none⟩ (.int .i64 (s + b)) := by
  have e1 := k4
  have e2 : (decide (s < s + b) == decide (0 < b)) = true := by
    by_cases h : 0 < b
    · rw [decide_eq_true h, decide_eq_true (show s < s + b by omega)]; rfl
    · rw [decide_eq_false h, decide_eq_false (show ¬ s < s + b by omega)]; rfl
  go_enter Yba.func18, Yba.ntmps18
  go_wp2
  go_end0
  exact ⟨rfl, rfl⟩

theorem add_any (s b : Int) (hs0 : -1000 ≤ s) (hs1 : s ≤ 1000) (hb0 : -1000 ≤ b) (hb1 : b ≤ 1000) (w : World) :
    Calls Yba.prog 7 #[.agg #[.int .u64 0, .int .i64 s, .pointer none], .int .i64 (b * 1000000000)] w fun e w' => e = .returned (.agg #[.int .u64 0, .int .i64 (s + b), .pointer none]) ∧ ∃ q os, w' = grow (w.drewN q) os := by
  have e1 := k1
  have e2 := k2
  have e3 := k3
  have e4 := k4
  have hd : (b * 1000000000).tdiv 1000000000 = b := Int.mul_tdiv_cancel _ (by omega)
  have hm : (b * 1000000000).tmod 1000000000 = 0 := Int.mul_tmod_left _ _
  have hdb0 : -1000000000000 ≤ b * 1000000000 := by omega
  have hdb1 : b * 1000000000 ≤ 1000000000000 := by omega
  generalize b * 1000000000 = d at *
  go_enter Yba.func7, Yba.ntmps7
  go_wp2_with (go_at_call 17; refine (nsec_any w.heap.size _ (by simp)).mono ?_; rintro e w1 ⟨rfl, rfl⟩)
  refine (addSec_any w.heap.size s b hs0 hs1 hb0 hb1 _ (by simp) (by simp) (by simp)).mono ?_
  rintro e w1 ⟨rfl, rfl⟩
  go_wp2_with fail
  refine bodyPost_ret (v := .agg #[.int .u64 0, .int .i64 (s + b), .pointer none]) (by simp [results, Yba.results7, go_sem]) rfl ⟨rfl, 0, #[.cells #[.int .u64 0, .int .i64 (s + b), .pointer none] 45, .cells #[.int .u64 0, .int .i64 (s + b), .pointer none] 45], ?_⟩
  rfl

theorem equal_any (s : Int) (w : World) :
    Calls Yba.prog 55 #[.agg #[.int .u64 0, .int .i64 s, .pointer none], .agg #[.int .u64 0, .int .i64 s, .pointer none]] w fun e w' => e = .returned (.bool true) ∧ ∃ q os, w' = grow (w.drewN q) os := by
  have e1 := k4
  have e2 := k5
  have e3 : (s == s) = true := by simp
  go_enter Yba.func55, Yba.ntmps55
  go_wp2_with fail
  refine (sec_any w.heap.size s _ (by simp) (by simp)).mono ?_
  rintro e w1 ⟨rfl, rfl⟩
  go_wp2_with fail
  refine (sec_any (w.heap.size + 1) s _ (by simp) (by simp)).mono ?_
  rintro e w1 ⟨rfl, rfl⟩
  go_wp2_with fail
  refine (nsec_any w.heap.size _ (by simp)).mono ?_
  rintro e w1 ⟨rfl, rfl⟩
  go_wp2_with fail
  refine (nsec_any (w.heap.size + 1) _ (by simp)).mono ?_
  rintro e w1 ⟨rfl, rfl⟩
  go_wp2_with fail
  go_ret
  exact ⟨rfl, 0, #[.cells #[.int .u64 0, .int .i64 s, .pointer none] 45, .cells #[.int .u64 0, .int .i64 s, .pointer none] 45], rfl⟩

set_option maxHeartbeats 400000 in
theorem sub_any (s b : Int) (hs0 : -400 ≤ s) (hs1 : s ≤ 400) (hb0 : -400 ≤ b) (hb1 : b ≤ 400) (w : World) :
    Calls Yba.prog 42 #[.agg #[.int .u64 0, .int .i64 s, .pointer none], .agg #[.int .u64 0, .int .i64 b, .pointer none]] w fun e w' => e = .returned (.int .i64 ((s - b) * 1000000000)) ∧ ∃ q os, w' = grow (w.drewN q) os := by
  have e1 := k4
  have e2 := k5
  have hmo : Yba.prog.follows .mixedOrders = true := by kernel_rfl
  have hd0 : -1000000000000 ≤ (s - b) * 1000000000 := by omega
  have hd1 : (s - b) * 1000000000 ≤ 1000000000000 := by omega
  have HADD := hideIt (fun w => add_any b (s - b) (by omega) (by omega) (by omega) (by omega) w)
  rw [show b + (s - b) = s by omega] at HADD
  go_enter Yba.func42, Yba.ntmps42
  go_wp2_with fail
  refine (sec_any w.heap.size s _ (by simp) (by simp)).mono ?_
  rintro e w1 ⟨rfl, rfl⟩
  go_wp2_with fail
  refine (sec_any (w.heap.size + 1) b _ (by simp) (by simp)).mono ?_
  rintro e w1 ⟨rfl, rfl⟩
  go_wp2_with fail
  refine (nsec_any w.heap.size _ (by simp)).mono ?_
  rintro e w1 ⟨rfl, rfl⟩
  go_wp2_with fail
  refine (nsec_any (w.heap.size + 1) _ (by simp)).mono ?_
  rintro e w1 ⟨rfl, hw1⟩
  have a0 : w1.cell? ⟨w.heap.size, 0, none⟩ = some (.int .u64 0) := by rw [hw1]; simp
  have a1 : w1.cell? ⟨w.heap.size, 1, none⟩ = some (.int .i64 s) := by rw [hw1]; simp
  have a2 : w1.cell? ⟨w.heap.size, 2, none⟩ = some (.pointer none) := by rw [hw1]; simp
  have b0 : w1.cell? ⟨w.heap.size + 1, 0, none⟩ = some (.int .u64 0) := by rw [hw1]; simp
  have b1 : w1.cell? ⟨w.heap.size + 1, 1, none⟩ = some (.int .i64 b) := by rw [hw1]; simp
  have b2 : w1.cell? ⟨w.heap.size + 1, 2, none⟩ = some (.pointer none) := by rw [hw1]; simp
  have hz : w1.heap.size = w.heap.size + 2 := by rw [hw1]; simp
  have G : Hid (∃ os, w1 = grow w os) := ⟨#[.cells #[.int .u64 0, .int .i64 s, .pointer none] 45, .cells #[.int .u64 0, .int .i64 b, .pointer none] 45], by rw [hw1]; rfl⟩
  clear hw1
  have ca0 := fun n os => cell_grown (by rw [hz]; show w.heap.size < _; omega) a0 n os
  have ca1 := fun n os => cell_grown (by rw [hz]; show w.heap.size < _; omega) a1 n os
  have ca2 := fun n os => cell_grown (by rw [hz]; show w.heap.size < _; omega) a2 n os
  have cb0 := fun n os => cell_grown (by rw [hz]; show w.heap.size + 1 < _; omega) b0 n os
  have cb1 := fun n os => cell_grown (by rw [hz]; show w.heap.size + 1 < _; omega) b1 n os
  have cb2 := fun n os => cell_grown (by rw [hz]; show w.heap.size + 1 < _; omega) b2 n os
  clear a0 a1 a2 b0 b1 b2 hz
  go_wp2_with fail
  go_quiet_grown (first | (go_at_call 7; refine Calls.grown_of (HADD.out _)) | (go_at_call 55; refine Calls.grown_of (equal_any s _)))
  go_wp2
  go_ret
  obtain ⟨os, rfl⟩ := G.out
  exact ⟨rfl, nq, os ++ osq, by rw [← grow_grow]; rfl⟩
end Go.Proofs.Ybulkdsao
