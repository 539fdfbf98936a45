/-
  No cell of these rows narrows 'for every input' (looked for: loops, veiled, ifaces, maps, wideKeys, modest, calm, conditions, laid).
  DERIVED. THE GIVEN ROWS OF THIS SEAT. 3 by the template 'for every input the law returns true; each argument reads behind the call as it read before'; 0 by the template 'total and deterministic' (their statements: YbulkdrxiTotals.lean).
  GIVEN WITH THE SEED: the statements are not yours to turn. If you find one false, say at which input.
  Laid BY PROGRAM, IN A SANDBOX (cutbox-rows.mjs): the forced cells as the released guide's own fill.sh prints them over the translation 1b216f510b2f823a… (all of the seat's roots in one cut). By AI agents, Wed Nov 11 2026. No macro, syntax, notation, axiom, sorry.
-/
import Derived.Test.YbulkdrxiChecked
import GoSem.Claim
import GoSem.ClaimJoined
import GoSem.ClaimMapViews
import Derived.JoinedTies
import Derived.KernelRfl
namespace Go.Proofs.Ybulkdrxi
/- THE CELL 'sum', in the pinned program and in every row, IS THE sha256 OF THE DUMP (.gsa) THAT YbulkdrxiProg.lean LOADS. Nothing in Lean hashes anything: it is a label: what it is worth is what the hold of that sum in a sandbox is worth. -/
noncomputable def Yba.pinned : Pinned := { name := "ybulkdrxi", sum := "1b216f510b2f823a529cb7ff123013daa8ec63a1bbff140291dcf791cffff4d4", checked := Yba.checked }
namespace Rows
def none {H : Type} : Left H := { results := [], args := [] }

/-- 'matsu.LawS5936AWhole': WHATEVER THE INPUT: true; the input reads as it did. -/
def lawS5936AWholeSpec : ChangeSpec := { name := "lawS5936AWhole", fn := fun _ => fun
  | [d] => { results := [.lit (.bool true)], args := [d] }
  | _ => none }
def lawS5936AWholeRow : OpenClaim := { program := "ybulkdrxi", sum := "1b216f510b2f823a529cb7ff123013daa8ec63a1bbff140291dcf791cffff4d4", func := "example.com/matsu/matsu.LawS5936AWhole", spec := "lawS5936AWhole", inPlace := ["sync/atomic.StoreUint32", "sync/atomic.LoadUint32", "sync/atomic.CompareAndSwapUint32"], apart := false }
def LawS5936AWholeSaid : Prop := lawS5936AWholeRow.holds Yba.pinned (OpenSpec.ofChange lawS5936AWholeSpec)

/-- ITS FALSE NEIGHBOUR: 'it returns false'. Refute it at one input. -/
def lawS5936AWholeWrong : ChangeSpec := { name := "lawS5936AWhole", fn := fun _ => fun
  | [d] => { results := [.lit (.bool false)], args := [d] }
  | _ => none }
def LawS5936AWholeWrongFalsely : Prop := lawS5936AWholeRow.holds Yba.pinned (OpenSpec.ofChange lawS5936AWholeWrong)

/-- 'matsu.LawS5936BWhole': WHATEVER THE INPUT: true; the input reads as it did. -/
def lawS5936BWholeSpec : ChangeSpec := { name := "lawS5936BWhole", fn := fun _ => fun
  | [d1, d2, d3, d4] => { results := [.lit (.bool true)], args := [d1, d2, d3, d4] }
  | _ => none }
def lawS5936BWholeRow : OpenClaim := { program := "ybulkdrxi", sum := "1b216f510b2f823a529cb7ff123013daa8ec63a1bbff140291dcf791cffff4d4", func := "example.com/matsu/matsu.LawS5936BWhole", spec := "lawS5936BWhole", inPlace := ["sync/atomic.StoreUint32", "sync/atomic.LoadUint32"], apart := false }
def LawS5936BWholeSaid : Prop := lawS5936BWholeRow.holds Yba.pinned (OpenSpec.ofChange lawS5936BWholeSpec)

/-- ITS FALSE NEIGHBOUR: 'it returns false'. Refute it at one input. -/
def lawS5936BWholeWrong : ChangeSpec := { name := "lawS5936BWhole", fn := fun _ => fun
  | [d1, d2, d3, d4] => { results := [.lit (.bool false)], args := [d1, d2, d3, d4] }
  | _ => none }
def LawS5936BWholeWrongFalsely : Prop := lawS5936BWholeRow.holds Yba.pinned (OpenSpec.ofChange lawS5936BWholeWrong)

/-- 'matsu.LawS5936CWhole': WHATEVER THE INPUT: true; the input reads as it did. -/
def lawS5936CWholeSpec : ChangeSpec := { name := "lawS5936CWhole", fn := fun _ => fun
  | [d1, d2, d3] => { results := [.lit (.bool true)], args := [d1, d2, d3] }
  | _ => none }
def lawS5936CWholeRow : OpenClaim := { program := "ybulkdrxi", sum := "1b216f510b2f823a529cb7ff123013daa8ec63a1bbff140291dcf791cffff4d4", func := "example.com/matsu/matsu.LawS5936CWhole", spec := "lawS5936CWhole", inPlace := ["sync/atomic.StoreInt64", "sync/atomic.StoreUint32", "sync/atomic.LoadInt64", "sync/atomic.CompareAndSwapInt64", "sync/atomic.LoadUint32"], apart := false }
def LawS5936CWholeSaid : Prop := lawS5936CWholeRow.holds Yba.pinned (OpenSpec.ofChange lawS5936CWholeSpec)

/-- ITS FALSE NEIGHBOUR: 'it returns false'. Refute it at one input. -/
def lawS5936CWholeWrong : ChangeSpec := { name := "lawS5936CWhole", fn := fun _ => fun
  | [d1, d2, d3] => { results := [.lit (.bool false)], args := [d1, d2, d3] }
  | _ => none }
def LawS5936CWholeWrongFalsely : Prop := lawS5936CWholeRow.holds Yba.pinned (OpenSpec.ofChange lawS5936CWholeWrong)

end Rows
end Go.Proofs.Ybulkdrxi
