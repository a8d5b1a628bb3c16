import Derived.Test.YbulkvnyDoorProof
import Derived.Test.YbulkvnyDoorTie
import Derived.Test.YbulkvnyDoorCards
import Derived.SevenTiedAt
namespace Go.Proofs.YbulkvnyDoor
open Go

/-- ████ THE TIED CARD ████ -/
theorem lawS1090BCounts_card : Rows.LawS1090BCountsCardSaid :=
  Claim7.holds_tied_plain_at .later [] [.data] true (true, Rows.lawS1090BCountsCard.stood.harness.2) false
    lawS1090BCounts.proved (fun _ h => by cases h) (by kernel_rfl) (fun _ h => by cases h) lawS1090BCounts_row_tie rfl ⟨rfl, rfl⟩ (by kernel_rfl) rfl
    (fun f fn hf hfn => by
      obtain rfl : f = 3 := Option.some.inj ((show Ybad.prog.funcNamed Rows.lawS1090BCountsRow.func = some 3 by kernel_rfl).symm.trans hf) |>.symm
      obtain rfl : fn = Ybad.f3 := (Option.some.inj (Ybad.func3.symm.trans hfn)).symm
      exact ⟨by kernel_rfl, fun j t ht => by
        rw [Ybad.params3] at ht
        have hm : t ∈ [5, 22, 23, 5, 5, 22] := by simpa using Array.mem_of_getElem? ht
        have hall : ([5, 22, 23, 5, 5, 22].all fun u => !Ybad.prog.wantsStandIn u) = true := by kernel_rfl
        exact (show Ybad.prog.wantsStandIn t = false by simpa using List.all_eq_true.1 hall t hm)⟩)
    (by kernel_rfl)
#print axioms lawS1090BCounts_card
end Go.Proofs.YbulkvnyDoor
