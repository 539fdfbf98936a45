/-
  DERIVED. GIVEN WITH THE SEED: THE CARDS: each row of YbulkdryyDoorRows.lean that lists a variable, with what it lists TIED to the program's text (the seventh form; the later family's looks); each row that meets fmt, with fmt's text TOLD by the authors' own Lean function (tested against real Go, not proved from fmt's source: count such statements apart). THE CARD IS WHAT COUNTS. Prove the row's statement (the work); the ties are given (YbulkdryyDoorTie.lean); close each card by the builder's one call (the guide's Derived/Test/ToyasCard.lean, 'card_holds'). Laid BY PROGRAM, IN A SANDBOX (cutbox-door.mjs). By AI agents, Wed Nov 11 2026. No macro, syntax, notation, axiom, sorry.
-/
import Derived.Test.YbulkdryyDoorRows
import GoSem.ClaimSeven
namespace Go.Proofs.YbulkdryyDoor
namespace Rows

/-- THE TIED CARD OF 'latchwork.LawS5939AWhole'. -/
def lawS5939AWholeCard : Claim7 := { stood := { row := lawS5939AWholeRow, standIns := [], harness := (true, "2d22fdb443127470ae8749cb44f539143d5b23ecf80476d8f753a25e2c26c681"), looks := false }, kinds := [], alts := [], laidByText := true, laidKinds := [.data, .data, .data, .data, .pinned], laidTests := true, laidLooks := .later }
def LawS5939AWholeCardSaid : Prop := Claim7.holds Ybad.pinned (.plain (OpenSpec.ofChange lawS5939AWholeSpec)) lawS5939AWholeCard

/-- THE TIED CARD OF 'latchwork.LawS5939BWhole'. -/
def lawS5939BWholeCard : Claim7 := { stood := { row := lawS5939BWholeRow, standIns := [], harness := (true, "2d22fdb443127470ae8749cb44f539143d5b23ecf80476d8f753a25e2c26c681"), looks := false }, kinds := [], alts := [], laidByText := true, laidKinds := [.data], laidTests := true, laidLooks := .later }
def LawS5939BWholeCardSaid : Prop := Claim7.holds Ybad.pinned (.plain (OpenSpec.ofChange lawS5939BWholeSpec)) lawS5939BWholeCard
end Rows
end Go.Proofs.YbulkdryyDoor
