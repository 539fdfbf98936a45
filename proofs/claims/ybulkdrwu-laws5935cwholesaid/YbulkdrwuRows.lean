/-
  No cell of these rows narrows 'for every input' (looked for: loops, veiled, ifaces, maps, wideKeys, modest, calm, conditions, laid).
  DERIVED. THE GIVEN ROWS OF THIS SEAT. 2 by the template 'for every input the law returns true; each argument reads behind the call as it read before'; 0 by the template 'total and deterministic' (their statements: YbulkdrwuTotals.lean).
  GIVEN WITH THE SEED: the statements are not yours to turn. If you find one false, say at which input.
  Laid BY PROGRAM, IN A SANDBOX (cutbox-rows.mjs): the forced cells as the released guide's own fill.sh prints them over the translation 1a00e28123dc396e… (all of the seat's roots in one cut). By AI agents, Wed Nov 11 2026. No macro, syntax, notation, axiom, sorry.
-/
import Derived.Test.YbulkdrwuChecked
import GoSem.Claim
import GoSem.ClaimJoined
import GoSem.ClaimMapViews
import Derived.JoinedTies
import Derived.KernelRfl
namespace Go.Proofs.Ybulkdrwu
/- THE CELL 'sum', in the pinned program and in every row, IS THE sha256 OF THE DUMP (.gsa) THAT YbulkdrwuProg.lean LOADS. Nothing in Lean hashes anything: it is a label: what it is worth is what the hold of that sum in a sandbox is worth. -/
noncomputable def Yba.pinned : Pinned := { name := "ybulkdrwu", sum := "1a00e28123dc396ea745124db18242c76d461f49cd8e614f03a36b2e43f73bdf", checked := Yba.checked }
namespace Rows
def none {H : Type} : Left H := { results := [], args := [] }

/-- 'der.LawS5935CWhole': WHATEVER THE INPUT: true; the input reads as it did. -/
def lawS5935CWholeSpec : ChangeSpec := { name := "lawS5935CWhole", fn := fun _ => fun
  | [d1, d2, d3, d4, d5] => { results := [.lit (.bool true)], args := [d1, d2, d3, d4, d5] }
  | _ => none }
def lawS5935CWholeRow : OpenClaim := { program := "ybulkdrwu", sum := "1a00e28123dc396ea745124db18242c76d461f49cd8e614f03a36b2e43f73bdf", func := "example.com/keywright/keywright/internal/der.LawS5935CWhole", spec := "lawS5935CWhole", apart := false }
def LawS5935CWholeSaid : Prop := lawS5935CWholeRow.holds Yba.pinned (OpenSpec.ofChange lawS5935CWholeSpec)

/-- ITS FALSE NEIGHBOUR: 'it returns false'. Refute it at one input. -/
def lawS5935CWholeWrong : ChangeSpec := { name := "lawS5935CWhole", fn := fun _ => fun
  | [d1, d2, d3, d4, d5] => { results := [.lit (.bool false)], args := [d1, d2, d3, d4, d5] }
  | _ => none }
def LawS5935CWholeWrongFalsely : Prop := lawS5935CWholeRow.holds Yba.pinned (OpenSpec.ofChange lawS5935CWholeWrong)

/-- 'der.LawS5935CSymm': WHATEVER THE INPUT: true; the input reads as it did. -/
def lawS5935CSymmSpec : ChangeSpec := { name := "lawS5935CSymm", fn := fun _ => fun
  | [d1, d2] => { results := [.lit (.bool true)], args := [d1, d2] }
  | _ => none }
def lawS5935CSymmRow : OpenClaim := { program := "ybulkdrwu", sum := "1a00e28123dc396ea745124db18242c76d461f49cd8e614f03a36b2e43f73bdf", func := "example.com/keywright/keywright/internal/der.LawS5935CSymm", spec := "lawS5935CSymm", apart := false }
def LawS5935CSymmSaid : Prop := lawS5935CSymmRow.holds Yba.pinned (OpenSpec.ofChange lawS5935CSymmSpec)

/-- ITS FALSE NEIGHBOUR: 'it returns false'. Refute it at one input. -/
def lawS5935CSymmWrong : ChangeSpec := { name := "lawS5935CSymm", fn := fun _ => fun
  | [d1, d2] => { results := [.lit (.bool false)], args := [d1, d2] }
  | _ => none }
def LawS5935CSymmWrongFalsely : Prop := lawS5935CSymmRow.holds Yba.pinned (OpenSpec.ofChange lawS5935CSymmWrong)

end Rows
end Go.Proofs.Ybulkdrwu
