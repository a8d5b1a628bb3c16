/-
  No cell of these rows narrows 'for every input' (looked for: loops, veiled, ifaces, maps, wideKeys, modest, calm, conditions, laid).
  DERIVED. THE GIVEN ROWS OF THIS SEAT. 2 by the template 'for every input the law returns true; each argument reads behind the call as it read before'; 0 by the template 'total and deterministic' (their statements: YbulkvpoTotals.lean).
  GIVEN WITH THE SEED: the statements are not yours to turn. If you find one false, say at which input.
  Laid BY PROGRAM, IN A SANDBOX (cutbox-rows.mjs): the forced cells as the released guide's own fill.sh prints them over the translation b6421c73a6d30273… (all of the seat's roots in one cut). By AI agents, Wed Nov 11 2026. No macro, syntax, notation, axiom, sorry.
-/
import Derived.Test.YbulkvpoChecked
import GoSem.Claim
import GoSem.ClaimJoined
import GoSem.ClaimMapViews
import Derived.JoinedTies
import Derived.KernelRfl
namespace Go.Proofs.Ybulkvpo
/- THE CELL 'sum', in the pinned program and in every row, IS THE sha256 OF THE DUMP (.gsa) THAT YbulkvpoProg.lean LOADS. Nothing in Lean hashes anything: it is a label: what it is worth is what the hold of that sum in a sandbox is worth. -/
noncomputable def Yba.pinned : Pinned := { name := "ybulkvpo", sum := "b6421c73a6d302739862bb15525e18e31ce285a5ee8b6ca3d37e33828a47cbc5", checked := Yba.checked }
namespace Rows
def none {H : Type} : Left H := { results := [], args := [] }

/-- 'archive.LawS1093AExact': WHATEVER THE INPUT: true; the input reads as it did. -/
def lawS1093AExactSpec : ChangeSpec := { name := "lawS1093AExact", fn := fun _ => fun
  | [d1, d2, d3] => { results := [.lit (.bool true)], args := [d1, d2, d3] }
  | _ => none }
def lawS1093AExactRow : OpenClaim := { program := "ybulkvpo", sum := "b6421c73a6d302739862bb15525e18e31ce285a5ee8b6ca3d37e33828a47cbc5", func := "example.com/amends/amends/internal/archive.LawS1093AExact", spec := "lawS1093AExact", named := ["encoding/binary.BigEndian"], apart := false }
def LawS1093AExactSaid : Prop := lawS1093AExactRow.holds Yba.pinned (OpenSpec.ofChange lawS1093AExactSpec)

/-- ITS FALSE NEIGHBOUR: 'it returns false'. Refute it at one input. -/
def lawS1093AExactWrong : ChangeSpec := { name := "lawS1093AExact", fn := fun _ => fun
  | [d1, d2, d3] => { results := [.lit (.bool false)], args := [d1, d2, d3] }
  | _ => none }
def LawS1093AExactWrongFalsely : Prop := lawS1093AExactRow.holds Yba.pinned (OpenSpec.ofChange lawS1093AExactWrong)

/-- 'archive.LawS1093ARoundTrip': WHATEVER THE INPUT: true; the input reads as it did. -/
def lawS1093ARoundTripSpec : ChangeSpec := { name := "lawS1093ARoundTrip", fn := fun _ => fun
  | [d1, d2, d3] => { results := [.lit (.bool true)], args := [d1, d2, d3] }
  | _ => none }
def lawS1093ARoundTripRow : OpenClaim := { program := "ybulkvpo", sum := "b6421c73a6d302739862bb15525e18e31ce285a5ee8b6ca3d37e33828a47cbc5", func := "example.com/amends/amends/internal/archive.LawS1093ARoundTrip", spec := "lawS1093ARoundTrip", named := ["encoding/binary.BigEndian"], apart := false }
def LawS1093ARoundTripSaid : Prop := lawS1093ARoundTripRow.holds Yba.pinned (OpenSpec.ofChange lawS1093ARoundTripSpec)

/-- ITS FALSE NEIGHBOUR: 'it returns false'. Refute it at one input. -/
def lawS1093ARoundTripWrong : ChangeSpec := { name := "lawS1093ARoundTrip", fn := fun _ => fun
  | [d1, d2, d3] => { results := [.lit (.bool false)], args := [d1, d2, d3] }
  | _ => none }
def LawS1093ARoundTripWrongFalsely : Prop := lawS1093ARoundTripRow.holds Yba.pinned (OpenSpec.ofChange lawS1093ARoundTripWrong)

end Rows
end Go.Proofs.Ybulkvpo
