/-
  No cell of these rows narrows 'for every input' (looked for: loops, veiled, ifaces, maps, wideKeys, modest, calm, conditions, laid).
  DERIVED. THE GIVEN ROWS OF THIS SEAT. 5 by the template 'for every input the law returns true; each argument reads behind the call as it read before'; 0 by the template 'total and deterministic' (their statements: YbulkactwTotals.lean).
  GIVEN WITH THE SEED: the statements are not yours to turn. If you find one false, say at which input.
  Laid BY PROGRAM, IN A SANDBOX (cutbox-rows.mjs): the forced cells as the released guide's own fill.sh prints them over the translation 5a2d020db7738d32… (all of the seat's roots in one cut). By AI agents, Wed Nov 11 2026. No macro, syntax, notation, axiom, sorry.
-/
import Derived.Test.YbulkactwChecked
import GoSem.Claim
import GoSem.ClaimJoined
import GoSem.ClaimMapViews
import Derived.JoinedTies
import Derived.KernelRfl
namespace Go.Proofs.Ybulkactw
/- THE CELL 'sum', in the pinned program and in every row, IS THE sha256 OF THE DUMP (.gsa) THAT YbulkactwProg.lean LOADS. Nothing in Lean hashes anything: it is a label: what it is worth is what the hold of that sum in a sandbox is worth. -/
noncomputable def Yba.pinned : Pinned := { name := "ybulkactw", sum := "5a2d020db7738d3209ec392358df1c09b8447f0bb788e9bf08ca902ba8fa0bfa", checked := Yba.checked }
namespace Rows
def none {H : Type} : Left H := { results := [], args := [] }

/-- 'masked-view.LawS1439BModel': WHATEVER THE INPUT: true; the input reads as it did. -/
def lawS1439BModelSpec : ChangeSpec := { name := "lawS1439BModel", fn := fun _ => fun
  | [d1, d2, d3, d4, d5] => { results := [.lit (.bool true)], args := [d1, d2, d3, d4, d5] }
  | _ => none }
def lawS1439BModelRow : OpenClaim := { program := "ybulkactw", sum := "5a2d020db7738d3209ec392358df1c09b8447f0bb788e9bf08ca902ba8fa0bfa", func := "example.com/masked-view/masked-view.LawS1439BModel", spec := "lawS1439BModel", apart := false }
def LawS1439BModelSaid : Prop := lawS1439BModelRow.holds Yba.pinned (OpenSpec.ofChange lawS1439BModelSpec)

/-- ITS FALSE NEIGHBOUR: 'it returns false'. Refute it at one input. -/
def lawS1439BModelWrong : ChangeSpec := { name := "lawS1439BModel", fn := fun _ => fun
  | [d1, d2, d3, d4, d5] => { results := [.lit (.bool false)], args := [d1, d2, d3, d4, d5] }
  | _ => none }
def LawS1439BModelWrongFalsely : Prop := lawS1439BModelRow.holds Yba.pinned (OpenSpec.ofChange lawS1439BModelWrong)

/-- 'masked-view.LawS1439BFreeAndFixed': WHATEVER THE INPUT: true; the input reads as it did. -/
def lawS1439BFreeAndFixedSpec : ChangeSpec := { name := "lawS1439BFreeAndFixed", fn := fun _ => fun
  | [d1, d2, d3, d4, d5, d6] => { results := [.lit (.bool true)], args := [d1, d2, d3, d4, d5, d6] }
  | _ => none }
def lawS1439BFreeAndFixedRow : OpenClaim := { program := "ybulkactw", sum := "5a2d020db7738d3209ec392358df1c09b8447f0bb788e9bf08ca902ba8fa0bfa", func := "example.com/masked-view/masked-view.LawS1439BFreeAndFixed", spec := "lawS1439BFreeAndFixed", apart := false }
def LawS1439BFreeAndFixedSaid : Prop := lawS1439BFreeAndFixedRow.holds Yba.pinned (OpenSpec.ofChange lawS1439BFreeAndFixedSpec)

/-- ITS FALSE NEIGHBOUR: 'it returns false'. Refute it at one input. -/
def lawS1439BFreeAndFixedWrong : ChangeSpec := { name := "lawS1439BFreeAndFixed", fn := fun _ => fun
  | [d1, d2, d3, d4, d5, d6] => { results := [.lit (.bool false)], args := [d1, d2, d3, d4, d5, d6] }
  | _ => none }
def LawS1439BFreeAndFixedWrongFalsely : Prop := lawS1439BFreeAndFixedRow.holds Yba.pinned (OpenSpec.ofChange lawS1439BFreeAndFixedWrong)

/-- 'masked-view.LawS1439BShort': WHATEVER THE INPUT: true; the input reads as it did. -/
def lawS1439BShortSpec : ChangeSpec := { name := "lawS1439BShort", fn := fun _ => fun
  | [d1, d2, d3, d4] => { results := [.lit (.bool true)], args := [d1, d2, d3, d4] }
  | _ => none }
def lawS1439BShortRow : OpenClaim := { program := "ybulkactw", sum := "5a2d020db7738d3209ec392358df1c09b8447f0bb788e9bf08ca902ba8fa0bfa", func := "example.com/masked-view/masked-view.LawS1439BShort", spec := "lawS1439BShort", apart := false }
def LawS1439BShortSaid : Prop := lawS1439BShortRow.holds Yba.pinned (OpenSpec.ofChange lawS1439BShortSpec)

/-- ITS FALSE NEIGHBOUR: 'it returns false'. Refute it at one input. -/
def lawS1439BShortWrong : ChangeSpec := { name := "lawS1439BShort", fn := fun _ => fun
  | [d1, d2, d3, d4] => { results := [.lit (.bool false)], args := [d1, d2, d3, d4] }
  | _ => none }
def LawS1439BShortWrongFalsely : Prop := lawS1439BShortRow.holds Yba.pinned (OpenSpec.ofChange lawS1439BShortWrong)

/-- 'masked-view.LawS1439CModel': WHATEVER THE INPUT: true; the input reads as it did. -/
def lawS1439CModelSpec : ChangeSpec := { name := "lawS1439CModel", fn := fun _ => fun
  | [d1, d2, d3, d4, d5, d6] => { results := [.lit (.bool true)], args := [d1, d2, d3, d4, d5, d6] }
  | _ => none }
def lawS1439CModelRow : OpenClaim := { program := "ybulkactw", sum := "5a2d020db7738d3209ec392358df1c09b8447f0bb788e9bf08ca902ba8fa0bfa", func := "example.com/masked-view/masked-view.LawS1439CModel", spec := "lawS1439CModel", apart := false }
def LawS1439CModelSaid : Prop := lawS1439CModelRow.holds Yba.pinned (OpenSpec.ofChange lawS1439CModelSpec)

/-- ITS FALSE NEIGHBOUR: 'it returns false'. Refute it at one input. -/
def lawS1439CModelWrong : ChangeSpec := { name := "lawS1439CModel", fn := fun _ => fun
  | [d1, d2, d3, d4, d5, d6] => { results := [.lit (.bool false)], args := [d1, d2, d3, d4, d5, d6] }
  | _ => none }
def LawS1439CModelWrongFalsely : Prop := lawS1439CModelRow.holds Yba.pinned (OpenSpec.ofChange lawS1439CModelWrong)

/-- 'masked-view.LawS1439CConcat': WHATEVER THE INPUT: true; the input reads as it did. -/
def lawS1439CConcatSpec : ChangeSpec := { name := "lawS1439CConcat", fn := fun _ => fun
  | [d1, d2, d3, d4, d5, d6] => { results := [.lit (.bool true)], args := [d1, d2, d3, d4, d5, d6] }
  | _ => none }
def lawS1439CConcatRow : OpenClaim := { program := "ybulkactw", sum := "5a2d020db7738d3209ec392358df1c09b8447f0bb788e9bf08ca902ba8fa0bfa", func := "example.com/masked-view/masked-view.LawS1439CConcat", spec := "lawS1439CConcat", apart := false }
def LawS1439CConcatSaid : Prop := lawS1439CConcatRow.holds Yba.pinned (OpenSpec.ofChange lawS1439CConcatSpec)

/-- ITS FALSE NEIGHBOUR: 'it returns false'. Refute it at one input. -/
def lawS1439CConcatWrong : ChangeSpec := { name := "lawS1439CConcat", fn := fun _ => fun
  | [d1, d2, d3, d4, d5, d6] => { results := [.lit (.bool false)], args := [d1, d2, d3, d4, d5, d6] }
  | _ => none }
def LawS1439CConcatWrongFalsely : Prop := lawS1439CConcatRow.holds Yba.pinned (OpenSpec.ofChange lawS1439CConcatWrong)

end Rows
end Go.Proofs.Ybulkactw
