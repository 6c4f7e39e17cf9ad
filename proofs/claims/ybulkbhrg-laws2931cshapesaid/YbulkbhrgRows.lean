/-
  No cell of these rows narrows 'for every input' (looked for: loops, veiled, ifaces, maps, wideKeys, modest, calm, conditions, laid).
  DERIVED. THE GIVEN ROWS OF THIS SEAT. 2 by the template 'for every input the law returns true; each argument reads behind the call as it read before'; 0 by the template 'total and deterministic' (their statements: YbulkbhrgTotals.lean).
  GIVEN WITH THE SEED: the statements are not yours to turn. If you find one false, say at which input.
  Laid BY PROGRAM, IN A SANDBOX (cutbox-rows.mjs): the forced cells as the released guide's own fill.sh prints them over the translation 87463414e3e5dc3a… (all of the seat's roots in one cut). By AI agents, Wed Nov 11 2026. No macro, syntax, notation, axiom, sorry.
-/
import Derived.Test.YbulkbhrgChecked
import GoSem.Claim
import GoSem.ClaimJoined
import GoSem.ClaimMapViews
import Derived.JoinedTies
import Derived.KernelRfl
namespace Go.Proofs.Ybulkbhrg
/- THE CELL 'sum', in the pinned program and in every row, IS THE sha256 OF THE DUMP (.gsa) THAT YbulkbhrgProg.lean LOADS. Nothing in Lean hashes anything: it is a label: what it is worth is what the hold of that sum in a sandbox is worth. -/
noncomputable def Yba.pinned : Pinned := { name := "ybulkbhrg", sum := "87463414e3e5dc3a6f60bae9f30431bbb645555fa2f7be7b416b35152c26a31a", checked := Yba.checked }
namespace Rows
def none {H : Type} : Left H := { results := [], args := [] }

/-- 'cutline.LawS2931CShape': WHATEVER THE INPUT: true; the input reads as it did. -/
def lawS2931CShapeSpec : ChangeSpec := { name := "lawS2931CShape", fn := fun _ => fun
  | [d] => { results := [.lit (.bool true)], args := [d] }
  | _ => none }
def lawS2931CShapeRow : OpenClaim := { program := "ybulkbhrg", sum := "87463414e3e5dc3a6f60bae9f30431bbb645555fa2f7be7b416b35152c26a31a", func := "example.com/cutline/cutline.LawS2931CShape", spec := "lawS2931CShape", apart := false }
def LawS2931CShapeSaid : Prop := lawS2931CShapeRow.holds Yba.pinned (OpenSpec.ofChange lawS2931CShapeSpec)

/-- ITS FALSE NEIGHBOUR: 'it returns false'. Refute it at one input. -/
def lawS2931CShapeWrong : ChangeSpec := { name := "lawS2931CShape", fn := fun _ => fun
  | [d] => { results := [.lit (.bool false)], args := [d] }
  | _ => none }
def LawS2931CShapeWrongFalsely : Prop := lawS2931CShapeRow.holds Yba.pinned (OpenSpec.ofChange lawS2931CShapeWrong)

/-- 'cutline.LawS2931CWeights': WHATEVER THE INPUT: true; the input reads as it did. -/
def lawS2931CWeightsSpec : ChangeSpec := { name := "lawS2931CWeights", fn := fun _ => fun
  | [d] => { results := [.lit (.bool true)], args := [d] }
  | _ => none }
def lawS2931CWeightsRow : OpenClaim := { program := "ybulkbhrg", sum := "87463414e3e5dc3a6f60bae9f30431bbb645555fa2f7be7b416b35152c26a31a", func := "example.com/cutline/cutline.LawS2931CWeights", spec := "lawS2931CWeights", apart := false }
def LawS2931CWeightsSaid : Prop := lawS2931CWeightsRow.holds Yba.pinned (OpenSpec.ofChange lawS2931CWeightsSpec)

/-- ITS FALSE NEIGHBOUR: 'it returns false'. Refute it at one input. -/
def lawS2931CWeightsWrong : ChangeSpec := { name := "lawS2931CWeights", fn := fun _ => fun
  | [d] => { results := [.lit (.bool false)], args := [d] }
  | _ => none }
def LawS2931CWeightsWrongFalsely : Prop := lawS2931CWeightsRow.holds Yba.pinned (OpenSpec.ofChange lawS2931CWeightsWrong)

end Rows
end Go.Proofs.Ybulkbhrg
