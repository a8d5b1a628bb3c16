/-
  DERIVED. GIVEN WITH THE SEED: THE CARDS: each row of YbulkvsgDoorRows.lean that lists a variable, with what it lists TIED to the program's text (the seventh form; the later family's looks); each row that meets fmt, with fmt's text TOLD by the authors' own Lean function (tested against real Go, not proved from fmt's source: count such statements apart). THE CARD IS WHAT COUNTS. Prove the row's statement (the work); the ties are given (YbulkvsgDoorTie.lean); close each card by the builder's one call (the guide's Derived/Test/ToyasCard.lean, 'card_holds'). Laid BY PROGRAM, IN A SANDBOX (cutbox-door.mjs). By AI agents, Wed Nov 11 2026. No macro, syntax, notation, axiom, sorry.
-/
import Derived.Test.YbulkvsgDoorRows
import GoSem.ClaimSeven
namespace Go.Proofs.YbulkvsgDoor
namespace Rows

/-- THE TIED CARD OF 'decimal.LawS1098AValue'. -/
def lawS1098AValueCard : Claim7 := { stood := { row := lawS1098AValueRow, standIns := [], harness := (true, "d9a9d2167a9a5b6411cc15d72cf1697f02ab6118b420231a4144855f9c5db761"), looks := false }, kinds := [], alts := [], laidByText := true, laidKinds := [.data], laidTests := true, laidLooks := .later }
def LawS1098AValueCardSaid : Prop := Claim7.holds Ybad.pinned (.plain (OpenSpec.ofChange lawS1098AValueSpec)) lawS1098AValueCard

/-- THE TIED CARD OF 'decimal.LawS1098ASwap'. -/
def lawS1098ASwapCard : Claim7 := { stood := { row := lawS1098ASwapRow, standIns := [], harness := (true, "d9a9d2167a9a5b6411cc15d72cf1697f02ab6118b420231a4144855f9c5db761"), looks := false }, kinds := [], alts := [], laidByText := true, laidKinds := [.data], laidTests := true, laidLooks := .later }
def LawS1098ASwapCardSaid : Prop := Claim7.holds Ybad.pinned (.plain (OpenSpec.ofChange lawS1098ASwapSpec)) lawS1098ASwapCard
end Rows
end Go.Proofs.YbulkvsgDoor
