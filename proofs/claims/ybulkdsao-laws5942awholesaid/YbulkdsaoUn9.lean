/-
  (*fetcher).units (9): the two boxes and the closure.
-/
import Derived.Test.YbulkdsaoUnits
namespace Go.Proofs.Ybulkdsao
open Go.ChangeShapes Go.WideShapes Go.ChangeAt Go.RowKit Go.Sort
set_option linter.unusedVariables false

theorem units_any (fb : Nat) (w : World) :
    Calls Yba.prog 9 #[.pointer (some ⟨fb, 0, none⟩), .agg #[.int .u64 0, .int .i64 0, .pointer none]] w
      fun e w' => e = .returned (.func (.func 20) #[] #[.pointer (some ⟨w.heap.size, 0, none⟩), .pointer (some ⟨w.heap.size + 1, 0, none⟩)]) ∧
        w' = (w.alloc (.cells #[.pointer (some ⟨fb, 0, none⟩)] 51)).alloc (.cells #[.int .u64 0, .int .i64 0, .pointer none] 45) := by
  have hmf : ∀ (fn : Fn) (first cap : Array Value) (w : World), (Instr.makeFunc fn first cap).run Yba.prog w = .ok (.func fn first cap) w := fun _ _ _ _ => rfl
  go_enter Yba.func9, Yba.ntmps9
  go_wp2
  go_ret
  exact ⟨rfl, rfl⟩
end Go.Proofs.Ybulkdsao
