/-
  The proof of 'Rows.LawS5936BWholeSaid'. The frame is the seat's own shell; the walk is ours.
-/
import Derived.Test.YbulkdrxiRows
import Derived.WalkKit
import Derived.ProofKit
import Derived.OpenShut
import Derived.Test.YbulkdrxiShift
import Derived.ShutString
namespace Go.Proofs.Ybulkdrxi.lawS5936BWhole
open Go.ChangeShapes Go.WideShapes Go.ChangeAt Go.RowKit
open Go.ChangeMaps (open_string shut_string)
set_option linter.unusedVariables false      -- a walk need not use every 'w<i>' (that an integer argument fits its kind)

theorem own : ownKnob Yba.prog.godebug = none := by kernel_rfl

/-! ### STEP 1: THE WALK -/
theorem heap2a (w : World) (X Y : Obj) : ((w.alloc X).alloc Y).heap[w.heap.size]? = some X := by
  show ((w.heap.push X).push Y)[w.heap.size]? = _
  simp only [Array.getElem?_push, Array.size_push]
  rw [if_neg (by omega), if_pos trivial]
theorem heap2b (w : World) (X Y : Obj) : ((w.alloc X).alloc Y).heap[w.heap.size + 1]? = some Y := by
  show ((w.heap.push X).push Y)[w.heap.size + 1]? = _
  simp only [Array.getElem?_push, Array.size_push]
  rw [if_pos trivial]
theorem heap3a (w : World) (X Y Z : Obj) : (((w.alloc X).alloc Y).alloc Z).heap[w.heap.size]? = some X := by
  show (((w.heap.push X).push Y).push Z)[w.heap.size]? = _
  simp only [Array.getElem?_push, Array.size_push]
  rw [if_neg (by omega), if_neg (by omega), if_pos trivial]
theorem heap3c (w : World) (X Y Z : Obj) : (((w.alloc X).alloc Y).alloc Z).heap[w.heap.size + 2]? = some Z := by
  show (((w.heap.push X).push Y).push Z)[w.heap.size + 2]? = _
  simp only [Array.getElem?_push, Array.size_push]
  rw [if_pos trivial]
theorem heap3b (w : World) (X Y Z : Obj) : (((w.alloc X).alloc Y).alloc Z).heap[w.heap.size + 1]? = some Y := by
  show (((w.heap.push X).push Y).push Z)[w.heap.size + 1]? = _
  simp only [Array.getElem?_push, Array.size_push]
  rw [if_neg (by omega), if_pos trivial]

set_option maxHeartbeats 1000000 in
theorem walk0 (a0 : Int) (a1 : Int) (a2 : Int) (a3 : Int) (h0 : 0 ≤ a0) (h1 : a0 ≤ 255) (w : World) (c : a0 % 5 = 0) :
    Calls Yba.prog 4 #[.int .u8 a0, .int .u32 a1, .int .i64 a2, .int .i64 a3] w fun e w' => e = .returned (.bool true) ∧ Grown w w' := by
  have e2 : (a2 != a2) = false := by simp
  have e3 : (a3 != a3) = false := by simp
  have e1 : (a1 != a1) = false := by simp
  have t0 : (a0 % 5 == 0) = true := by simp [c]
  have t1 : (a0 % 5 == 1) = false := by simp [c]
  have t2 : (a0 % 5 == 2) = false := by simp [c]
  have t3 : (a0 % 5 == 3) = false := by simp [c]
  clear c
  go_enter Yba.func4, Yba.ntmps4
  go_wp2_with fail
  refine (store_any w.heap.size 1 a1 (.int .u32 0) _ (by simp) (by simp)).mono ?_
  rintro e w1 ⟨rfl, rfl⟩
  go_wp2_with fail
  refine (shift_other w.heap.size ⟨w.heap.size, 2, none⟩ _ (by simp) (heap2a _ _ _) (heap2a _ _ _)).mono ?_
  rintro e w1 ⟨rfl, rfl⟩
  go_wp2_with fail
  refine (model_else a0 _ h0 h1 t1).mono ?_
  rintro e w1 ⟨rfl, rfl⟩
  go_wp2_with fail
  refine (load_any w.heap.size 1 a1 _ (by simp)).mono ?_
  rintro e w1 ⟨rfl, rfl⟩
  go_wp2_with fail
  refine (load_any (w.heap.size + 1) 1 0 _ (by simp)).mono ?_
  rintro e w1 ⟨rfl, rfl⟩
  go_wp2_with fail
  go_ret
  exact ⟨rfl, by repeat (first | exact Grown.refl _ | apply Grown.drew | apply Grown.alloc)⟩

set_option maxHeartbeats 1000000 in
theorem walk1 (a0 : Int) (a1 : Int) (a2 : Int) (a3 : Int) (h0 : 0 ≤ a0) (h1 : a0 ≤ 255) (w : World) (c : a0 % 5 = 1) :
    Calls Yba.prog 4 #[.int .u8 a0, .int .u32 a1, .int .i64 a2, .int .i64 a3] w fun e w' => e = .returned (.bool true) ∧ Grown w w' := by
  have e2 : (a2 != a2) = false := by simp
  have e3 : (a3 != a3) = false := by simp
  have e1 : (a1 != a1) = false := by simp
  have t0 : (a0 % 5 == 0) = false := by simp [c]
  have t1 : (a0 % 5 == 1) = true := by simp [c]
  have t2 : (a0 % 5 == 2) = false := by simp [c]
  have t3 : (a0 % 5 == 3) = false := by simp [c]
  clear c
  go_enter Yba.func4, Yba.ntmps4
  go_wp2_with fail
  refine (store_any w.heap.size 1 a1 (.int .u32 0) _ (by simp) (by simp)).mono ?_
  rintro e w1 ⟨rfl, rfl⟩
  go_wp2_with fail
  refine (shift_seat1 w.heap.size _).mono ?_
  rintro e w1 ⟨rfl, rfl⟩
  go_wp2_with fail
  refine (model_one a0 _ h0 h1 t1).mono ?_
  rintro e w1 ⟨rfl, rfl⟩
  go_wp2_with fail
  refine (load_any w.heap.size 1 a1 _ (by simp)).mono ?_
  rintro e w1 ⟨rfl, rfl⟩
  go_wp2_with fail
  refine (load_any (w.heap.size + 1) 1 0 _ (by simp)).mono ?_
  rintro e w1 ⟨rfl, rfl⟩
  go_wp2_with fail
  go_ret
  exact ⟨rfl, by repeat (first | exact Grown.refl _ | apply Grown.drew | apply Grown.alloc)⟩

set_option maxHeartbeats 1000000 in
theorem walk2 (a0 : Int) (a1 : Int) (a2 : Int) (a3 : Int) (h0 : 0 ≤ a0) (h1 : a0 ≤ 255) (w : World) (c : a0 % 5 = 2) :
    Calls Yba.prog 4 #[.int .u8 a0, .int .u32 a1, .int .i64 a2, .int .i64 a3] w fun e w' => e = .returned (.bool true) ∧ Grown w w' := by
  have e2 : (a2 != a2) = false := by simp
  have e3 : (a3 != a3) = false := by simp
  have e1 : (a1 != a1) = false := by simp
  have t0 : (a0 % 5 == 0) = false := by simp [c]
  have t1 : (a0 % 5 == 1) = false := by simp [c]
  have t2 : (a0 % 5 == 2) = true := by simp [c]
  have t3 : (a0 % 5 == 3) = false := by simp [c]
  clear c
  go_enter Yba.func4, Yba.ntmps4
  go_wp2_with fail
  refine (store_any w.heap.size 1 a1 (.int .u32 0) _ (by simp) (by simp)).mono ?_
  rintro e w1 ⟨rfl, rfl⟩
  go_wp2_with fail
  refine (shift_nil w.heap.size _).mono ?_
  rintro e w1 ⟨rfl, rfl⟩
  go_wp2_with fail
  refine (model_else a0 _ h0 h1 t1).mono ?_
  rintro e w1 ⟨rfl, rfl⟩
  go_wp2_with fail
  refine (load_any w.heap.size 1 a1 _ (by simp)).mono ?_
  rintro e w1 ⟨rfl, rfl⟩
  go_wp2_with fail
  refine (load_any (w.heap.size + 1) 1 0 _ (by simp)).mono ?_
  rintro e w1 ⟨rfl, rfl⟩
  go_wp2_with fail
  go_ret
  exact ⟨rfl, by repeat (first | exact Grown.refl _ | apply Grown.drew | apply Grown.alloc)⟩

set_option maxHeartbeats 1000000 in
theorem walk3 (a0 : Int) (a1 : Int) (a2 : Int) (a3 : Int) (h0 : 0 ≤ a0) (h1 : a0 ≤ 255) (w : World) (c : a0 % 5 = 3) :
    Calls Yba.prog 4 #[.int .u8 a0, .int .u32 a1, .int .i64 a2, .int .i64 a3] w fun e w' => e = .returned (.bool true) ∧ Grown w w' := by
  have e2 : (a2 != a2) = false := by simp
  have e3 : (a3 != a3) = false := by simp
  have e1 : (a1 != a1) = false := by simp
  have t0 : (a0 % 5 == 0) = false := by simp [c]
  have t1 : (a0 % 5 == 1) = false := by simp [c]
  have t2 : (a0 % 5 == 2) = false := by simp [c]
  have t3 : (a0 % 5 == 3) = true := by simp [c]
  clear c
  go_enter Yba.func4, Yba.ntmps4
  go_wp2_with fail
  refine (store_any w.heap.size 1 a1 (.int .u32 0) _ (by simp) (by simp)).mono ?_
  rintro e w1 ⟨rfl, rfl⟩
  go_wp2_with fail
  refine (shift_other w.heap.size ⟨w.heap.size + 2, 0, none⟩ _ (by simp) (heap3c _ _ _ _) (heap3a _ _ _ _)).mono ?_
  rintro e w1 ⟨rfl, rfl⟩
  go_wp2_with fail
  refine (model_else a0 _ h0 h1 t1).mono ?_
  rintro e w1 ⟨rfl, rfl⟩
  go_wp2_with fail
  refine (load_any w.heap.size 1 a1 _ ((cell_of_row _ _ _ _ _ _ (heap3a _ _ _ _)).trans rfl)).mono ?_
  rintro e w1 ⟨rfl, rfl⟩
  go_wp2_with fail
  refine (load_any (w.heap.size + 1) 1 0 _ ((cell_of_row _ _ _ _ _ _ (heap3b _ _ _ _)).trans rfl)).mono ?_
  rintro e w1 ⟨rfl, rfl⟩
  go_wp2_with fail
  go_ret
  exact ⟨rfl, by repeat (first | exact Grown.refl _ | apply Grown.drew | apply Grown.alloc)⟩

set_option maxHeartbeats 1000000 in
theorem walk4 (a0 : Int) (a1 : Int) (a2 : Int) (a3 : Int) (h0 : 0 ≤ a0) (h1 : a0 ≤ 255) (w : World) (c : a0 % 5 = 4) :
    Calls Yba.prog 4 #[.int .u8 a0, .int .u32 a1, .int .i64 a2, .int .i64 a3] w fun e w' => e = .returned (.bool true) ∧ Grown w w' := by
  have e2 : (a2 != a2) = false := by simp
  have e3 : (a3 != a3) = false := by simp
  have e1 : (a1 != a1) = false := by simp
  have t0 : (a0 % 5 == 0) = false := by simp [c]
  have t1 : (a0 % 5 == 1) = false := by simp [c]
  have t2 : (a0 % 5 == 2) = false := by simp [c]
  have t3 : (a0 % 5 == 3) = false := by simp [c]
  clear c
  go_enter Yba.func4, Yba.ntmps4
  go_wp2_with fail
  refine (store_any w.heap.size 1 a1 (.int .u32 0) _ (by simp) (by simp)).mono ?_
  rintro e w1 ⟨rfl, rfl⟩
  go_wp2_with fail
  refine (shift_other w.heap.size ⟨w.heap.size + 1, 8, none⟩ _ (by simp) (heap2b _ _ _) (heap2a _ _ _)).mono ?_
  rintro e w1 ⟨rfl, rfl⟩
  go_wp2_with fail
  refine (model_else a0 _ h0 h1 t1).mono ?_
  rintro e w1 ⟨rfl, rfl⟩
  go_wp2_with fail
  refine (load_any w.heap.size 1 a1 _ (by simp)).mono ?_
  rintro e w1 ⟨rfl, rfl⟩
  go_wp2_with fail
  refine (load_any (w.heap.size + 1) 1 0 _ (by simp)).mono ?_
  rintro e w1 ⟨rfl, rfl⟩
  go_wp2_with fail
  go_ret
  exact ⟨rfl, by repeat (first | exact Grown.refl _ | apply Grown.drew | apply Grown.alloc)⟩

theorem walk (a0 : Int) (a1 : Int) (a2 : Int) (a3 : Int) (w0 : (Lit.int .u8 a0).wf = true) (w1 : (Lit.int .u32 a1).wf = true) (w2 : (Lit.int .i64 a2).wf = true) (w3 : (Lit.int .i64 a3).wf = true) (w : World) :
    Calls Yba.prog 4 #[.int .u8 a0, .int .u32 a1, .int .i64 a2, .int .i64 a3] w fun e w' => e = .returned (.bool true) ∧ Grown w w' := by
  obtain ⟨h0, h1⟩ := bounds_u8 w0
  rcases (show a0 % 5 = 0 ∨ a0 % 5 = 1 ∨ a0 % 5 = 2 ∨ a0 % 5 = 3 ∨ a0 % 5 = 4 by omega) with c | c | c | c | c
  · exact walk0 a0 a1 a2 a3 h0 h1 w c
  · exact walk1 a0 a1 a2 a3 h0 h1 w c
  · exact walk2 a0 a1 a2 a3 h0 h1 w c
  · exact walk3 a0 a1 a2 a3 h0 h1 w c
  · exact walk4 a0 a1 a2 a3 h0 h1 w c

/-! ### THE ROW's STEP: WRITTEN OUT: LEAVE IT -/
set_option maxRecDepth 100000 in
theorem lifted (os : Os) (started : os.Started) (H : Type) (enc : TypeId × Value → H) :
    ReturnsInHanded {} Yba.checked os 4 .any (Rows.lawS5936BWholeSpec.pre6 enc Yba.prog Yba.f4 Rows.lawS5936BWholeRow.domain false) (Rows.lawS5936BWholeSpec.post enc Yba.prog Yba.f4 false true false false) := by
  refine returnsInHanded_of_change (C := Yba.checked) own started (by kernel_rfl) Yba.func4
    (ChangeSpec.witness6 (enc := enc) (C := Yba.checked) false ⟨#[], #[.int .u8 0, .int .u32 0, .int .i64 0, .int .i64 0], []⟩ 8 (by kernel_rfl) (by kernel_rfl) (by kernel_rfl) (by kernel_rfl)) ?_
  intro W base args ds gs before hval0 hW hcnd _
  have hval : ∀ (j : Nat) t v, Yba.f4.params[j]? = some t → args[j]? = some v → Value.okWide Yba.prog W .any base t v := hval0
  have hW' := hW
  obtain ⟨p, q, hA0, hV, rfl, hfz, hnd⟩ := hW
  have hA : DataW.TrodAll enc Yba.prog W 0 (fun _ => true) true Yba.f4.params.toList args.toList ds p := hA0
  rw [Yba.params4] at hA hval
  obtain ⟨v0, vs0, d0, ds0, p0, q0, hargs, rfl, rfl, h0, r0⟩ := trodAll_cons hA
  obtain ⟨v1, vs1, d1, ds1, p1, q1, rfl, rfl, rfl, h1, r1⟩ := trodAll_cons r0
  obtain ⟨v2, vs2, d2, ds2, p2, q2, rfl, rfl, rfl, h2, r2⟩ := trodAll_cons r1
  obtain ⟨v3, vs3, d3, ds3, p3, q3, rfl, rfl, rfl, h3, r3⟩ := trodAll_cons r2
  obtain ⟨rfl, rfl, rfl⟩ := trodAll_nil r3
  obtain rfl : args = #[v0, v1, v2, v3] := by cases args; simp_all
  obtain ⟨rfl, rfl⟩ := trodVars_none hV
  obtain ⟨a0, rfl, rfl, rfl, w0⟩ := open_int Yba.underlying5 (hval 0 5 v0 rfl rfl) h0
  obtain ⟨a1, rfl, rfl, rfl, w1⟩ := open_int Yba.underlying22 (hval 1 22 v1 rfl rfl) h1
  obtain ⟨a2, rfl, rfl, rfl, w2⟩ := open_int Yba.underlying3 (hval 2 3 v2 rfl rfl) h2
  obtain ⟨a3, rfl, rfl, rfl, w3⟩ := open_int Yba.underlying3 (hval 3 3 v3 rfl rfl) h3
  clear hA0 hval0
  simp only [List.append_nil] at hW'
  refine (walk a0 a1 a2 a3 w0 w1 w2 w3 W).mono fun e W' ⟨he, hg⟩ => ?_
  subst he
  exact ⟨_, rfl, post_of_same (pa := []) (pv := []) hW' (fun _ _ _ => (trodAll_cons_mk (shut_bool Yba.underlying4 _) trodAll_mk0)) (fun sp _ => (trodAll_cons_mk (shut_int Yba.underlying5 w0) (trodAll_cons_mk (shut_int Yba.underlying22 w1) (trodAll_cons_mk (shut_int Yba.underlying3 w2) (trodAll_cons_mk (shut_int Yba.underlying3 w3) trodAll_mk0))))) (fun _ _ => rfl) rfl
    (hg.frame _) hg.2.1 (ok_one (by kernel_rfl) rfl (okWide_bool_mk Yba.underlying4 _))⟩

theorem over : Rows.lawS5936BWholeRow.holds Yba.pinned (OpenSpec.ofChange Rows.lawS5936BWholeSpec) :=
  OpenClaim.holds_of_wide 4 Yba.f4 rfl rfl rfl rfl rfl rfl rfl ⟨rfl, rfl, rfl, rfl, rfl⟩ rfl rfl rfl rfl rfl (by kernel_rfl) Yba.func4 (by kernel_rfl)
    (of_decide_eq_true (by kernel_rfl)) (by unfold Func.isWrapper; first | (rw [if_pos (by decide +kernel)]; kernel_rfl) | (rw [if_neg (by decide +kernel)]; exact ⟨rfl, rfl⟩))
    (fun os started H enc _ => lifted os started H enc)

/-- ████ THE STATEMENT ████ -/
theorem proved : Rows.LawS5936BWholeSaid :=
  over
end Go.Proofs.Ybulkdrxi.lawS5936BWhole
