/-
  The contracts of (*seats).shift (function 9) and of the law's own model zzs5936bmodel (function 10).
-/
import Derived.Test.YbulkdrxiAtomic
import Derived.LaidEqlPtr
namespace Go.Proofs.Ybulkdrxi
open Go.ChangeShapes Go.WideShapes Go.ChangeAt Go.RowKit
set_option linter.unusedVariables false

theorem Yba.info43 : ∃ j, Yba.prog.info? 43 = some j ∧ j.size ≠ 0 := by
  have h : (Yba.prog.info? 43).map (·.size) = some 6 := by kernel_rfl
  cases hj : Yba.prog.info? 43 with
  | none => rw [hj] at h; cases h
  | some j => rw [hj] at h; simp at h; exact ⟨j, rfl, by omega⟩

theorem eql_nil_left (w : World) (b : Addr) : (binOp .eql 41 (.pointer none) (.pointer (some b))).run Yba.prog w = .ok (.bool false) w := by
  have h : ∀ d : Nat, (Op.equalIn (d + 1) 41 (.pointer none) (.pointer (some b))).run Yba.prog w = .ok false w := fun d => by
    simp [Op.equalIn, run_underlying Yba.underlying41]
  simp only [binOp]
  simp [Op.equal, Op.maxDepth, h 9999]

theorem shift_seat1 (B : Nat) (w : World) :
    Calls Yba.prog 9 #[.pointer (some ⟨B, 0, none⟩), .pointer (some ⟨B, 8, none⟩)] w fun e w' => e = .returned (.int .u32 2) ∧ w' = w := by
  obtain ⟨j, hj, hsz⟩ := Yba.info43
  have he := fun (w : World) => run_eql_ptr_same (P := Yba.prog) w ⟨B, 8, none⟩ Yba.underlying41 hj
  clear hj hsz
  go_enter Yba.func9, Yba.ntmps9
  go_wp2
  go_ret
  exact ⟨rfl, rfl⟩

theorem shift_nil (B : Nat) (w : World) :
    Calls Yba.prog 9 #[.pointer (some ⟨B, 0, none⟩), .pointer none] w fun e w' => e = .returned (.int .u32 0) ∧ w' = w := by
  have he := eql_nil_left
  go_enter Yba.func9, Yba.ntmps9
  go_wp2
  go_ret
  exact ⟨rfl, rfl⟩

theorem shift_other (B : Nat) (a : Addr) (w : World) (hne : a ≠ ⟨B, 8, none⟩) {ca cb : Array Value} {ta tb : TypeId} (ha : w.heap[a.block]? = some (.cells ca ta (0, 0))) (hb : w.heap[B]? = some (.cells cb tb (0, 0))) :
    Calls Yba.prog 9 #[.pointer (some ⟨B, 0, none⟩), .pointer (some a)] w fun e w' => e = .returned (.int .u32 0) ∧ w' = w := by
  obtain ⟨j, hj, hsz⟩ := Yba.info43
  have he := run_eql_ptr_other (P := Yba.prog) w Yba.underlying41 hj hsz (b := ⟨B, 8, none⟩) hne ha hb
  clear hj hsz hne ha hb
  go_enter Yba.func9, Yba.ntmps9
  go_wp2
  go_ret
  exact ⟨rfl, rfl⟩

theorem model_one (s : Int) (w : World) (h0 : 0 ≤ s) (h1 : s ≤ 255) (t1 : (s % 5 == 1) = true) :
    Calls Yba.prog 10 #[.int .u8 s] w fun e w' => e = .returned (.int .u32 2) ∧ w' = w := by
  go_enter Yba.func10, Yba.ntmps10
  go_wp2
  go_ret
  exact ⟨rfl, rfl⟩
theorem model_else (s : Int) (w : World) (h0 : 0 ≤ s) (h1 : s ≤ 255) (t1 : (s % 5 == 1) = false) :
    Calls Yba.prog 10 #[.int .u8 s] w fun e w' => e = .returned (.int .u32 0) ∧ w' = w := by
  go_enter Yba.func10, Yba.ntmps10
  go_wp2
  go_ret
  exact ⟨rfl, rfl⟩
end Go.Proofs.Ybulkdrxi
