/-
  No cell of these rows narrows 'for every input' (looked for: loops, veiled, ifaces, maps, wideKeys, modest, calm, conditions, laid).
  DERIVED. THE GIVEN ROWS OF THIS SEAT. 2 by the template 'for every input the law returns true; each argument reads behind the call as it read before'; 0 by the template 'total and deterministic' (their statements: YbulkacxqTotals.lean).
  GIVEN WITH THE SEED: the statements are not yours to turn. If you find one false, say at which input.
  Laid BY PROGRAM, IN A SANDBOX (cutbox-rows.mjs): the forced cells as the released guide's own fill.sh prints them over the translation 36897380d7d3c380… (all of the seat's roots in one cut). By AI agents, Wed Nov 11 2026. No macro, syntax, notation, axiom, sorry.
-/
import Derived.Test.YbulkacxqChecked
import GoSem.Claim
import GoSem.ClaimJoined
import GoSem.ClaimMapViews
import Derived.JoinedTies
import Derived.KernelRfl
namespace Go.Proofs.Ybulkacxq
/- THE CELL 'sum', in the pinned program and in every row, IS THE sha256 OF THE DUMP (.gsa) THAT YbulkacxqProg.lean LOADS. Nothing in Lean hashes anything: it is a label: what it is worth is what the hold of that sum in a sandbox is worth. -/
noncomputable def Yba.pinned : Pinned := { name := "ybulkacxq", sum := "36897380d7d3c38044ff9e3c6500b0319dda602325504ed099a38111f0d67156", checked := Yba.checked }
namespace Rows
def none {H : Type} : Left H := { results := [], args := [] }

/-- 'shardbyte.LawS1446AIntoRing': WHATEVER THE INPUT: true; the input reads as it did. -/
def lawS1446AIntoRingSpec : ChangeSpec := { name := "lawS1446AIntoRing", fn := fun _ => fun
  | [d1, d2] => { results := [.lit (.bool true)], args := [d1, d2] }
  | _ => none }
def lawS1446AIntoRingRow : OpenClaim := { program := "ybulkacxq", sum := "36897380d7d3c38044ff9e3c6500b0319dda602325504ed099a38111f0d67156", func := "example.com/shardbyte/shardbyte.LawS1446AIntoRing", spec := "lawS1446AIntoRing", apart := false }
def LawS1446AIntoRingSaid : Prop := lawS1446AIntoRingRow.holds Yba.pinned (OpenSpec.ofChange lawS1446AIntoRingSpec)

/-- ITS FALSE NEIGHBOUR: 'it returns false'. Refute it at one input. -/
def lawS1446AIntoRingWrong : ChangeSpec := { name := "lawS1446AIntoRing", fn := fun _ => fun
  | [d1, d2] => { results := [.lit (.bool false)], args := [d1, d2] }
  | _ => none }
def LawS1446AIntoRingWrongFalsely : Prop := lawS1446AIntoRingRow.holds Yba.pinned (OpenSpec.ofChange lawS1446AIntoRingWrong)

/-- 'shardbyte.LawS1446ARoundTrip': WHATEVER THE INPUT: true; the input reads as it did. -/
def lawS1446ARoundTripSpec : ChangeSpec := { name := "lawS1446ARoundTrip", fn := fun _ => fun
  | [d1, d2] => { results := [.lit (.bool true)], args := [d1, d2] }
  | _ => none }
def lawS1446ARoundTripRow : OpenClaim := { program := "ybulkacxq", sum := "36897380d7d3c38044ff9e3c6500b0319dda602325504ed099a38111f0d67156", func := "example.com/shardbyte/shardbyte.LawS1446ARoundTrip", spec := "lawS1446ARoundTrip", apart := false }
def LawS1446ARoundTripSaid : Prop := lawS1446ARoundTripRow.holds Yba.pinned (OpenSpec.ofChange lawS1446ARoundTripSpec)

/-- ITS FALSE NEIGHBOUR: 'it returns false'. Refute it at one input. -/
def lawS1446ARoundTripWrong : ChangeSpec := { name := "lawS1446ARoundTrip", fn := fun _ => fun
  | [d1, d2] => { results := [.lit (.bool false)], args := [d1, d2] }
  | _ => none }
def LawS1446ARoundTripWrongFalsely : Prop := lawS1446ARoundTripRow.holds Yba.pinned (OpenSpec.ofChange lawS1446ARoundTripWrong)

end Rows
end Go.Proofs.Ybulkacxq
