import Derived.Test.YbulkvsgDoorProof
import Derived.Test.YbulkvsgDoorTie
import Derived.Test.YbulkvsgDoorCards
import Derived.SevenTiedAt
namespace Go.Proofs.YbulkvsgDoor
open Go

/-- ████ THE TIED CARD ████ -/
theorem lawS1098AValue_card : Rows.LawS1098AValueCardSaid :=
  Claim7.holds_tied_plain_at .later [] [.data] true (true, Rows.lawS1098AValueCard.stood.harness.2) false
    lawS1098AValue.proved (fun _ h => by cases h) (by kernel_rfl) (fun _ h => by cases h) lawS1098AValue_row_tie rfl ⟨rfl, rfl⟩ (by kernel_rfl) rfl
    (fun f fn hf hfn => by
      obtain rfl : f = 3 := Option.some.inj ((show Ybad.prog.funcNamed Rows.lawS1098AValueRow.func = some 3 by kernel_rfl).symm.trans hf) |>.symm
      obtain rfl : fn = Ybad.f3 := (Option.some.inj (Ybad.func3.symm.trans hfn)).symm
      exact ⟨by kernel_rfl, fun j t ht => by
        rw [Ybad.params3] at ht
        have hm : t ∈ [2, 22, 2, 22] := by simpa using Array.mem_of_getElem? ht
        have hall : ([2, 22, 2, 22].all fun u => !Ybad.prog.wantsStandIn u) = true := by kernel_rfl
        exact (show Ybad.prog.wantsStandIn t = false by simpa using List.all_eq_true.1 hall t hm)⟩)
    (by kernel_rfl)
#print axioms lawS1098AValue_card
end Go.Proofs.YbulkvsgDoor
