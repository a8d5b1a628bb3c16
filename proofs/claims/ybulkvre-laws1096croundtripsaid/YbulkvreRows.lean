/-
  No cell of these rows narrows 'for every input' (looked for: loops, veiled, ifaces, maps, wideKeys, modest, calm, conditions, laid).
  DERIVED. THE GIVEN ROWS OF THIS SEAT. 2 by the template 'for every input the law returns true; each argument reads behind the call as it read before'; 0 by the template 'total and deterministic' (their statements: YbulkvreTotals.lean).
  GIVEN WITH THE SEED: the statements are not yours to turn. If you find one false, say at which input.
  Laid BY PROGRAM, IN A SANDBOX (cutbox-rows.mjs): the forced cells as the released guide's own fill.sh prints them over the translation 6d4c0abb609ff0f7… (all of the seat's roots in one cut). By AI agents, Wed Nov 11 2026. No macro, syntax, notation, axiom, sorry.
-/
import Derived.Test.YbulkvreChecked
import GoSem.Claim
import GoSem.ClaimJoined
import GoSem.ClaimMapViews
import Derived.JoinedTies
import Derived.KernelRfl
namespace Go.Proofs.Ybulkvre
/- THE CELL 'sum', in the pinned program and in every row, IS THE sha256 OF THE DUMP (.gsa) THAT YbulkvreProg.lean LOADS. Nothing in Lean hashes anything: it is a label: what it is worth is what the hold of that sum in a sandbox is worth. -/
noncomputable def Yba.pinned : Pinned := { name := "ybulkvre", sum := "6d4c0abb609ff0f73bf5a652b55d10fb8c3f918c6da66bf61ef687a91630f77f", checked := Yba.checked }
namespace Rows
def none {H : Type} : Left H := { results := [], args := [] }

/-- 'ebcdic.LawS1096CRoundTrip': WHATEVER THE INPUT: true; the input reads as it did. -/
def lawS1096CRoundTripSpec : ChangeSpec := { name := "lawS1096CRoundTrip", fn := fun _ => fun
  | [d1, d2, d3] => { results := [.lit (.bool true)], args := [d1, d2, d3] }
  | _ => none }
def lawS1096CRoundTripRow : OpenClaim := { program := "ybulkvre", sum := "6d4c0abb609ff0f73bf5a652b55d10fb8c3f918c6da66bf61ef687a91630f77f", func := "example.com/cardreel/cardreel/pkg/ebcdic.LawS1096CRoundTrip", spec := "lawS1096CRoundTrip", apart := false }
def LawS1096CRoundTripSaid : Prop := lawS1096CRoundTripRow.holds Yba.pinned (OpenSpec.ofChange lawS1096CRoundTripSpec)

/-- ITS FALSE NEIGHBOUR: 'it returns false'. Refute it at one input. -/
def lawS1096CRoundTripWrong : ChangeSpec := { name := "lawS1096CRoundTrip", fn := fun _ => fun
  | [d1, d2, d3] => { results := [.lit (.bool false)], args := [d1, d2, d3] }
  | _ => none }
def LawS1096CRoundTripWrongFalsely : Prop := lawS1096CRoundTripRow.holds Yba.pinned (OpenSpec.ofChange lawS1096CRoundTripWrong)

/-- 'ebcdic.LawS1096CAnyTable': WHATEVER THE INPUT: true; the input reads as it did. -/
def lawS1096CAnyTableSpec : ChangeSpec := { name := "lawS1096CAnyTable", fn := fun _ => fun
  | [d1, d2] => { results := [.lit (.bool true)], args := [d1, d2] }
  | _ => none }
def lawS1096CAnyTableRow : OpenClaim := { program := "ybulkvre", sum := "6d4c0abb609ff0f73bf5a652b55d10fb8c3f918c6da66bf61ef687a91630f77f", func := "example.com/cardreel/cardreel/pkg/ebcdic.LawS1096CAnyTable", spec := "lawS1096CAnyTable", apart := false }
def LawS1096CAnyTableSaid : Prop := lawS1096CAnyTableRow.holds Yba.pinned (OpenSpec.ofChange lawS1096CAnyTableSpec)

/-- ITS FALSE NEIGHBOUR: 'it returns false'. Refute it at one input. -/
def lawS1096CAnyTableWrong : ChangeSpec := { name := "lawS1096CAnyTable", fn := fun _ => fun
  | [d1, d2] => { results := [.lit (.bool false)], args := [d1, d2] }
  | _ => none }
def LawS1096CAnyTableWrongFalsely : Prop := lawS1096CAnyTableRow.holds Yba.pinned (OpenSpec.ofChange lawS1096CAnyTableWrong)

end Rows
end Go.Proofs.Ybulkvre
