/-
  No cell of these rows narrows 'for every input' (looked for: loops, veiled, ifaces, maps, wideKeys, modest, calm, conditions, laid).
  DERIVED. THE GIVEN ROWS OF THIS SEAT. 3 by the template 'for every input the law returns true; each argument reads behind the call as it read before'; 0 by the template 'total and deterministic' (their statements: YbulkbhqsTotals.lean).
  GIVEN WITH THE SEED: the statements are not yours to turn. If you find one false, say at which input.
  Laid BY PROGRAM, IN A SANDBOX (cutbox-rows.mjs): the forced cells as the released guide's own fill.sh prints them over the translation 53208f42bdb0b284… (all of the seat's roots in one cut). By AI agents, Wed Nov 11 2026. No macro, syntax, notation, axiom, sorry.
-/
import Derived.Test.YbulkbhqsChecked
import GoSem.Claim
import GoSem.ClaimJoined
import GoSem.ClaimMapViews
import Derived.JoinedTies
import Derived.KernelRfl
namespace Go.Proofs.Ybulkbhqs
/- THE CELL 'sum', in the pinned program and in every row, IS THE sha256 OF THE DUMP (.gsa) THAT YbulkbhqsProg.lean LOADS. Nothing in Lean hashes anything: it is a label: what it is worth is what the hold of that sum in a sandbox is worth. -/
noncomputable def Yba.pinned : Pinned := { name := "ybulkbhqs", sum := "53208f42bdb0b28475cb3eb792ddacf2b31e69914c88d9bec07c77c2e591395d", checked := Yba.checked }
namespace Rows
def none {H : Type} : Left H := { results := [], args := [] }

/-- 'keyfence.LawS2930AExact': WHATEVER THE INPUT: true; the input reads as it did. -/
def lawS2930AExactSpec : ChangeSpec := { name := "lawS2930AExact", fn := fun _ => fun
  | [d] => { results := [.lit (.bool true)], args := [d] }
  | _ => none }
def lawS2930AExactRow : OpenClaim := { program := "ybulkbhqs", sum := "53208f42bdb0b28475cb3eb792ddacf2b31e69914c88d9bec07c77c2e591395d", func := "example.com/keyfence/keyfence.LawS2930AExact", spec := "lawS2930AExact", apart := false }
def LawS2930AExactSaid : Prop := lawS2930AExactRow.holds Yba.pinned (OpenSpec.ofChange lawS2930AExactSpec)

/-- ITS FALSE NEIGHBOUR: 'it returns false'. Refute it at one input. -/
def lawS2930AExactWrong : ChangeSpec := { name := "lawS2930AExact", fn := fun _ => fun
  | [d] => { results := [.lit (.bool false)], args := [d] }
  | _ => none }
def LawS2930AExactWrongFalsely : Prop := lawS2930AExactRow.holds Yba.pinned (OpenSpec.ofChange lawS2930AExactWrong)

/-- 'keyfence.LawS2930ARoundTrip': WHATEVER THE INPUT: true; the input reads as it did. -/
def lawS2930ARoundTripSpec : ChangeSpec := { name := "lawS2930ARoundTrip", fn := fun _ => fun
  | [d1, d2] => { results := [.lit (.bool true)], args := [d1, d2] }
  | _ => none }
def lawS2930ARoundTripRow : OpenClaim := { program := "ybulkbhqs", sum := "53208f42bdb0b28475cb3eb792ddacf2b31e69914c88d9bec07c77c2e591395d", func := "example.com/keyfence/keyfence.LawS2930ARoundTrip", spec := "lawS2930ARoundTrip", apart := false }
def LawS2930ARoundTripSaid : Prop := lawS2930ARoundTripRow.holds Yba.pinned (OpenSpec.ofChange lawS2930ARoundTripSpec)

/-- ITS FALSE NEIGHBOUR: 'it returns false'. Refute it at one input. -/
def lawS2930ARoundTripWrong : ChangeSpec := { name := "lawS2930ARoundTrip", fn := fun _ => fun
  | [d1, d2] => { results := [.lit (.bool false)], args := [d1, d2] }
  | _ => none }
def LawS2930ARoundTripWrongFalsely : Prop := lawS2930ARoundTripRow.holds Yba.pinned (OpenSpec.ofChange lawS2930ARoundTripWrong)

/-- 'keyfence.LawS2930BLeave': WHATEVER THE INPUT: true; the input reads as it did. -/
def lawS2930BLeaveSpec : ChangeSpec := { name := "lawS2930BLeave", fn := fun _ => fun
  | [d1, d2, d3, d4] => { results := [.lit (.bool true)], args := [d1, d2, d3, d4] }
  | _ => none }
def lawS2930BLeaveRow : OpenClaim := { program := "ybulkbhqs", sum := "53208f42bdb0b28475cb3eb792ddacf2b31e69914c88d9bec07c77c2e591395d", func := "example.com/keyfence/keyfence.LawS2930BLeave", spec := "lawS2930BLeave", recurses := true, apart := false }
def LawS2930BLeaveSaid : Prop := lawS2930BLeaveRow.holds Yba.pinned (OpenSpec.ofChange lawS2930BLeaveSpec)

/-- ITS FALSE NEIGHBOUR: 'it returns false'. Refute it at one input. -/
def lawS2930BLeaveWrong : ChangeSpec := { name := "lawS2930BLeave", fn := fun _ => fun
  | [d1, d2, d3, d4] => { results := [.lit (.bool false)], args := [d1, d2, d3, d4] }
  | _ => none }
def LawS2930BLeaveWrongFalsely : Prop := lawS2930BLeaveRow.holds Yba.pinned (OpenSpec.ofChange lawS2930BLeaveWrong)

end Rows
end Go.Proofs.Ybulkbhqs
