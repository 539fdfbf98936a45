/-
  A viewer is not unequal to itself.
-/
import Derived.Test.YbulkdsaoLe
namespace Go.Proofs.Ybulkdsao
open Go.ChangeShapes Go.WideShapes Go.ChangeAt Go.RowKit

theorem eq_float (d : Nat) (W : World) : (Op.equalIn (d + 1) 32 (.float .f64 0) (.float .f64 0)).run Yba.prog W = .ok true W := by
  have h : Op.floatEq .f64 0 0 = true := by kernel_rfl
  simp [Op.equalIn, run_underlying Yba.underlying32, h]
theorem eq_nil (d : Nat) (W : World) : (Op.equalIn (d + 1) 43 (.pointer none) (.pointer none)).run Yba.prog W = .ok true W := by
  simp [Op.equalIn, run_underlying Yba.underlying43]
theorem eq_int (d : Nat) (t : TypeId) (k k' : IntKind) (a : Int) (h : Yba.prog.underlying t = some (.int k')) (W : World) : (Op.equalIn (d + 1) t (.int k a) (.int k a)).run Yba.prog W = .ok true W := by
  rw [run_equalIn_int W d t k k' a a h]; simp

set_option maxRecDepth 100000 in
theorem eq_time (d : Nat) (b : Int) (W : World) : (Op.equalIn (d + 2) 45 (.agg #[.int .u64 0, .int .i64 b, .pointer none]) (.agg #[.int .u64 0, .int .i64 b, .pointer none])).run Yba.prog W = .ok true W := by
  have i42 := fun W => eq_int d 42 .u64 _ 0 Yba.underlying42 W
  have i2 := fun W => eq_int d 2 .i64 _ b Yba.underlying2 W
  have n43 := eq_nil d
  rw [run_equalIn_agg W (d + 1) 45 _ _ (by kernel_rfl) (by kernel_rfl)]
  simp only [Program.fieldsOf, Yba.underlying45, Op.eqFields]
  go_simp

set_option maxRecDepth 100000 in
set_option maxHeartbeats 1000000 in
theorem neq_viewer (st pos b : Int) (W : World) : (binOp .neq 49 (.agg #[.int .i64 st, .int .i64 pos, .int .u64 0, .int .i64 b, .pointer none, .float .f64 0, .int .i64 0, .int .u64 0, .int .i64 0, .pointer none]) (.agg #[.int .i64 st, .int .i64 pos, .int .u64 0, .int .i64 b, .pointer none, .float .f64 0, .int .i64 0, .int .u64 0, .int .i64 0, .pointer none])).run Yba.prog W = .ok (.bool false) W := by
  have i3 := fun (a : Int) W => eq_int 9998 3 .i64 _ a Yba.underlying3 W
  have i47 := fun (a : Int) W => eq_int 9998 47 .i64 _ a Yba.underlying47 W
  have t45 := eq_time 9997
  have f32 := eq_float 9998
  rw [run_neq_struct, run_equalIn_agg W 9999 49 _ _ (by kernel_rfl) (by kernel_rfl)]
  simp only [Program.fieldsOf, Yba.underlying49, Op.eqFields]
  go_simp
end Go.Proofs.Ybulkdsao
