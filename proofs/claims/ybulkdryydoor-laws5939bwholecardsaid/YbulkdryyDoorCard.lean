/-
  The tied card 'Rows.LawS5939BWholeCardSaid', closed by the builder's one call over the row's proof and the given tie.
-/
import Derived.Test.YbulkdryyDoorProof
namespace Go.Proofs.YbulkdryyDoor
open Go

theorem lawS5939BWhole_card : Rows.LawS5939BWholeCardSaid :=
  Claim7.holds_tied_plain_at .later [] [.data] true (true, "2d22fdb443127470ae8749cb44f539143d5b23ecf80476d8f753a25e2c26c681") false
    lawS5939BWhole_holds (fun _ h => by cases h) (by kernel_rfl) (fun _ h => by cases h) lawS5939BWhole_row_tie rfl ⟨rfl, rfl⟩ (by kernel_rfl) rfl
    (fun f fn hf hfn => by
      obtain rfl : f = 4 := Option.some.inj ((show Ybad.prog.funcNamed Rows.lawS5939BWholeRow.func = some 4 by kernel_rfl).symm.trans hf) |>.symm
      obtain rfl : fn = Ybad.f4 := (Option.some.inj (Ybad.func4.symm.trans hfn)).symm
      exact ⟨by kernel_rfl, fun j t ht => by
        rw [Ybad.params4] at ht
        have hm : t ∈ [39, 5, 5] := by simpa using Array.mem_of_getElem? ht
        have hall : ([39, 5, 5].all fun u => !Ybad.prog.wantsStandIn u) = true := by kernel_rfl
        exact (show Ybad.prog.wantsStandIn t = false by simpa using List.all_eq_true.1 hall t hm)⟩)
    (by kernel_rfl)
end Go.Proofs.YbulkdryyDoor
