/-
  A pointer is not unequal to itself.
-/
import Derived.Test.YbulkdsaoUnits
namespace Go.Proofs.Ybulkdsao
open Go.ChangeShapes Go.WideShapes Go.ChangeAt Go.RowKit
theorem neq_ptr (p : Addr) (W : World) : (binOp .neq 41 (.pointer (some p)) (.pointer (some p))).run Yba.prog W = .ok (.bool false) W := by
  obtain ⟨i0, h1, h2⟩ := Yba.info49
  have h : ∀ d : Nat, (Op.equalIn (d + 1) 41 (.pointer (some p)) (.pointer (some p))).run Yba.prog W = .ok true W := fun d => by
    simp [Op.equalIn, run_underlying Yba.underlying41, sizeOf, typeInfo, h1, run_sameAddr_same]
  simp only [binOp]
  simp [Op.equal, Op.maxDepth, h 9999]
end Go.Proofs.Ybulkdsao
