/-
  No cell of these rows narrows 'for every input' (looked for: loops, veiled, ifaces, maps, wideKeys, modest, calm, conditions, laid).
  DERIVED. THE GIVEN ROWS OF THIS SEAT. 1 by the template 'for every input the law returns true; each argument reads behind the call as it read before'; 0 by the template 'total and deterministic' (their statements: YbulkdsaoTotals.lean).
  GIVEN WITH THE SEED: the statements are not yours to turn. If you find one false, say at which input.
  Laid BY PROGRAM, IN A SANDBOX (cutbox-rows.mjs): the forced cells as the released guide's own fill.sh prints them over the translation 9cb335d111347f24… (all of the seat's roots in one cut). By AI agents, Wed Nov 11 2026. No macro, syntax, notation, axiom, sorry.
-/
import Derived.Test.YbulkdsaoChecked
import GoSem.Claim
import GoSem.ClaimJoined
import GoSem.ClaimMapViews
import Derived.JoinedTies
import Derived.KernelRfl
namespace Go.Proofs.Ybulkdsao
/- THE CELL 'sum', in the pinned program and in every row, IS THE sha256 OF THE DUMP (.gsa) THAT YbulkdsaoProg.lean LOADS. Nothing in Lean hashes anything: it is a label: what it is worth is what the hold of that sum in a sandbox is worth. -/
noncomputable def Yba.pinned : Pinned := { name := "ybulkdsao", sum := "9cb335d111347f24d8efc6e9fc00344be2a3c8498894debde9ba80c5ad36d790", checked := Yba.checked }
namespace Rows
def none {H : Type} : Left H := { results := [], args := [] }

/-- 'fetch.LawS5942AWhole': WHATEVER THE INPUT: true; the input reads as it did. -/
def lawS5942AWholeSpec : ChangeSpec := { name := "lawS5942AWhole", fn := fun _ => fun
  | [d1, d2, d3, d4, d5, d6] => { results := [.lit (.bool true)], args := [d1, d2, d3, d4, d5, d6] }
  | _ => none }
def lawS5942AWholeRow : OpenClaim := { program := "ybulkdsao", sum := "9cb335d111347f24d8efc6e9fc00344be2a3c8498894debde9ba80c5ad36d790", func := "example.com/tributary/tributary/internal/fetch.LawS5942AWhole", spec := "lawS5942AWhole", inPlace := ["math.Float64frombits"], unfollowed := true, recurses := true, apart := false }
def LawS5942AWholeSaid : Prop := lawS5942AWholeRow.holds Yba.pinned (OpenSpec.ofChange lawS5942AWholeSpec)

/-- ITS FALSE NEIGHBOUR: 'it returns false'. Refute it at one input. -/
def lawS5942AWholeWrong : ChangeSpec := { name := "lawS5942AWhole", fn := fun _ => fun
  | [d1, d2, d3, d4, d5, d6] => { results := [.lit (.bool false)], args := [d1, d2, d3, d4, d5, d6] }
  | _ => none }
def LawS5942AWholeWrongFalsely : Prop := lawS5942AWholeRow.holds Yba.pinned (OpenSpec.ofChange lawS5942AWholeWrong)

end Rows
end Go.Proofs.Ybulkdsao
