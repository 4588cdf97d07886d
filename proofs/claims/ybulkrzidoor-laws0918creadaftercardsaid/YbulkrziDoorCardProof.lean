/-
  The tied card of LawS0918CReadAfter, out of the bare row's proof (YbulkrziDoorRowProof) and the given tie (YbulkrziDoorTie), by the builder's one call.
-/
import Derived.Test.YbulkrziDoorRowProof
import Derived.Test.YbulkrziDoorTie
import Derived.Test.YbulkrziDoorCards
import Derived.SevenTiedAt
namespace Go.Proofs.YbulkrziDoor.lawS0918CReadAfter
open Go

/-- ████ THE STATEMENT ████ -/
theorem proved : Rows.LawS0918CReadAfterCardSaid :=
  Claim7.holds_tied_plain_at .later [] [.sentinel] true (true, "27ad4bf713076451d6efbdea1d4256d5872acc2cf0cd462157fdcceda4b54c19") false
    over (fun _ h => by cases h) (by kernel_rfl) (fun _ h => by cases h) lawS0918CReadAfter_row_tie rfl ⟨rfl, rfl⟩ (by kernel_rfl) rfl
    (fun f fn hf hfn => by
      obtain rfl : f = 3 := Option.some.inj ((show Ybad.prog.funcNamed Rows.lawS0918CReadAfterRow.func = some 3 by kernel_rfl).symm.trans hf) |>.symm
      obtain rfl : fn = Ybad.f3 := (Option.some.inj (Ybad.func3.symm.trans hfn)).symm
      exact ⟨by kernel_rfl, fun j t ht => by
        rw [Ybad.params3] at ht
        have hm : t ∈ [22, 23] := by simpa using Array.mem_of_getElem? ht
        have hall : ([22, 23].all fun u => !Ybad.prog.wantsStandIn u) = true := by kernel_rfl
        exact (show Ybad.prog.wantsStandIn t = false by simpa using List.all_eq_true.1 hall t hm)⟩)
    (by kernel_rfl)
end Go.Proofs.YbulkrziDoor.lawS0918CReadAfter
