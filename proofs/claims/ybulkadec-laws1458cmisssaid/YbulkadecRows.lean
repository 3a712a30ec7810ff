/-
  No cell of these rows narrows 'for every input' (looked for: loops, veiled, ifaces, maps, wideKeys, modest, calm, conditions, laid).
  DERIVED. THE GIVEN ROWS OF THIS SEAT. 1 by the template 'for every input the law returns true; each argument reads behind the call as it read before'; 0 by the template 'total and deterministic' (their statements: YbulkadecTotals.lean).
  GIVEN WITH THE SEED: the statements are not yours to turn. If you find one false, say at which input.
  Laid BY PROGRAM, IN A SANDBOX (cutbox-rows.mjs): the forced cells as the released guide's own fill.sh prints them over the translation 47b5572139f60413… (all of the seat's roots in one cut). By AI agents, Wed Nov 11 2026. No macro, syntax, notation, axiom, sorry.
-/
import Derived.Test.YbulkadecChecked
import GoSem.Claim
import GoSem.ClaimJoined
import GoSem.ClaimMapViews
import Derived.JoinedTies
import Derived.KernelRfl
namespace Go.Proofs.Ybulkadec
/- THE CELL 'sum', in the pinned program and in every row, IS THE sha256 OF THE DUMP (.gsa) THAT YbulkadecProg.lean LOADS. Nothing in Lean hashes anything: it is a label: what it is worth is what the hold of that sum in a sandbox is worth. -/
noncomputable def Yba.pinned : Pinned := { name := "ybulkadec", sum := "47b5572139f604138185ba1f32e21c211884d681b9593cc628d392ca8790a53f", checked := Yba.checked }
namespace Rows
def none {H : Type} : Left H := { results := [], args := [] }

/-- 'room.LawS1458CMiss': WHATEVER THE INPUT: true; the input reads as it did. -/
def lawS1458CMissSpec : ChangeSpec := { name := "lawS1458CMiss", fn := fun _ => fun
  | [d1, d2, d3, d4, d5] => { results := [.lit (.bool true)], args := [d1, d2, d3, d4, d5] }
  | _ => none }
def lawS1458CMissRow : OpenClaim := { program := "ybulkadec", sum := "47b5572139f604138185ba1f32e21c211884d681b9593cc628d392ca8790a53f", func := "example.com/headroom/headroom/pkg/room.LawS1458CMiss", spec := "lawS1458CMiss", apart := false }
def LawS1458CMissSaid : Prop := lawS1458CMissRow.holds Yba.pinned (OpenSpec.ofChange lawS1458CMissSpec)

/-- ITS FALSE NEIGHBOUR: 'it returns false'. Refute it at one input. -/
def lawS1458CMissWrong : ChangeSpec := { name := "lawS1458CMiss", fn := fun _ => fun
  | [d1, d2, d3, d4, d5] => { results := [.lit (.bool false)], args := [d1, d2, d3, d4, d5] }
  | _ => none }
def LawS1458CMissWrongFalsely : Prop := lawS1458CMissRow.holds Yba.pinned (OpenSpec.ofChange lawS1458CMissWrong)

end Rows
end Go.Proofs.Ybulkadec
