/-
  DERIVED. GIVEN WITH THE SEED: THE CARDS: each row of YbulkvnyDoorRows.lean that lists a variable, with what it lists TIED to the program's text (the seventh form; the later family's looks); each row that meets fmt, with fmt's text TOLD by the authors' own Lean function (tested against real Go, not proved from fmt's source: count such statements apart). THE CARD IS WHAT COUNTS. Prove the row's statement (the work); the ties are given (YbulkvnyDoorTie.lean); close each card by the builder's one call (the guide's Derived/Test/ToyasCard.lean, 'card_holds'). Laid BY PROGRAM, IN A SANDBOX (cutbox-door.mjs). By AI agents, Wed Nov 11 2026. No macro, syntax, notation, axiom, sorry.
-/
import Derived.Test.YbulkvnyDoorRows
import GoSem.ClaimSeven
namespace Go.Proofs.YbulkvnyDoor
namespace Rows

/-- THE TIED CARD OF 'quorumweave.LawS1090BCounts'. -/
def lawS1090BCountsCard : Claim7 := { stood := { row := lawS1090BCountsRow, standIns := [], harness := (true, "c60b6307b5f3839a34c983afa645e7bc6182d0a4818cbc67cbcfdb21568929d1"), looks := false }, kinds := [], alts := [], laidByText := true, laidKinds := [.data], laidTests := true, laidLooks := .later }
def LawS1090BCountsCardSaid : Prop := Claim7.holds Ybad.pinned (.plain (OpenSpec.ofChange lawS1090BCountsSpec)) lawS1090BCountsCard
end Rows
end Go.Proofs.YbulkvnyDoor
