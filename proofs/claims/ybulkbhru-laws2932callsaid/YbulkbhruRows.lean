/-
  No cell of these rows narrows 'for every input' (looked for: loops, veiled, ifaces, maps, wideKeys, modest, calm, conditions, laid).
  DERIVED. THE GIVEN ROWS OF THIS SEAT. 2 by the template 'for every input the law returns true; each argument reads behind the call as it read before'; 0 by the template 'total and deterministic' (their statements: YbulkbhruTotals.lean).
  GIVEN WITH THE SEED: the statements are not yours to turn. If you find one false, say at which input.
  Laid BY PROGRAM, IN A SANDBOX (cutbox-rows.mjs): the forced cells as the released guide's own fill.sh prints them over the translation 2d2050799e468860… (all of the seat's roots in one cut). By AI agents, Wed Nov 11 2026. No macro, syntax, notation, axiom, sorry.
-/
import Derived.Test.YbulkbhruChecked
import GoSem.Claim
import GoSem.ClaimJoined
import GoSem.ClaimMapViews
import Derived.JoinedTies
import Derived.KernelRfl
namespace Go.Proofs.Ybulkbhru
/- THE CELL 'sum', in the pinned program and in every row, IS THE sha256 OF THE DUMP (.gsa) THAT YbulkbhruProg.lean LOADS. Nothing in Lean hashes anything: it is a label: what it is worth is what the hold of that sum in a sandbox is worth. -/
noncomputable def Yba.pinned : Pinned := { name := "ybulkbhru", sum := "2d2050799e4688603ffa102c5fd045c0b6002bf6bc5b0cc6f445d9fbfef1e81f", checked := Yba.checked }
namespace Rows
def none {H : Type} : Left H := { results := [], args := [] }

/-- 'token.LawS2932CAll': WHATEVER THE INPUT: true; the input reads as it did. -/
def lawS2932CAllSpec : ChangeSpec := { name := "lawS2932CAll", fn := fun _ => fun
  | [d] => { results := [.lit (.bool true)], args := [d] }
  | _ => none }
def lawS2932CAllRow : OpenClaim := { program := "ybulkbhru", sum := "2d2050799e4688603ffa102c5fd045c0b6002bf6bc5b0cc6f445d9fbfef1e81f", func := "example.com/holdfast/holdfast/pkg/token.LawS2932CAll", spec := "lawS2932CAll", unfollowed := true, recurses := true, apart := false }
def LawS2932CAllSaid : Prop := lawS2932CAllRow.holds Yba.pinned (OpenSpec.ofChange lawS2932CAllSpec)

/-- ITS FALSE NEIGHBOUR: 'it returns false'. Refute it at one input. -/
def lawS2932CAllWrong : ChangeSpec := { name := "lawS2932CAll", fn := fun _ => fun
  | [d] => { results := [.lit (.bool false)], args := [d] }
  | _ => none }
def LawS2932CAllWrongFalsely : Prop := lawS2932CAllRow.holds Yba.pinned (OpenSpec.ofChange lawS2932CAllWrong)

/-- 'token.LawS2932CPrefix': WHATEVER THE INPUT: true; the input reads as it did. -/
def lawS2932CPrefixSpec : ChangeSpec := { name := "lawS2932CPrefix", fn := fun _ => fun
  | [d1, d2] => { results := [.lit (.bool true)], args := [d1, d2] }
  | _ => none }
def lawS2932CPrefixRow : OpenClaim := { program := "ybulkbhru", sum := "2d2050799e4688603ffa102c5fd045c0b6002bf6bc5b0cc6f445d9fbfef1e81f", func := "example.com/holdfast/holdfast/pkg/token.LawS2932CPrefix", spec := "lawS2932CPrefix", unfollowed := true, recurses := true, apart := false }
def LawS2932CPrefixSaid : Prop := lawS2932CPrefixRow.holds Yba.pinned (OpenSpec.ofChange lawS2932CPrefixSpec)

/-- ITS FALSE NEIGHBOUR: 'it returns false'. Refute it at one input. -/
def lawS2932CPrefixWrong : ChangeSpec := { name := "lawS2932CPrefix", fn := fun _ => fun
  | [d1, d2] => { results := [.lit (.bool false)], args := [d1, d2] }
  | _ => none }
def LawS2932CPrefixWrongFalsely : Prop := lawS2932CPrefixRow.holds Yba.pinned (OpenSpec.ofChange lawS2932CPrefixWrong)

end Rows
end Go.Proofs.Ybulkbhru
