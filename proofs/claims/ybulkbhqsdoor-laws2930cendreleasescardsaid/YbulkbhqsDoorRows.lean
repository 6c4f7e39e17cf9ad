/-
  NARROWER THAN 'FOR EVERY INPUT', by the rows' own cells (each row's printed sentence says how): LawS2930CEndReleases: laid.
  DERIVED. THE GIVEN ROWS OF THIS SEAT. 1 by the template 'for every input the law returns true; each argument reads behind the call as it read before'; 0 by the template 'total and deterministic' (their statements: YbulkbhqsDoorTotals.lean).
  GIVEN WITH THE SEED: the statements are not yours to turn. If you find one false, say at which input.
  Laid BY PROGRAM, IN A SANDBOX (cutbox-rows.mjs): the forced cells as the released guide's own fill.sh prints them over the translation 55181c363f03f46a… (all of the seat's roots in one cut). By AI agents, Wed Nov 11 2026. No macro, syntax, notation, axiom, sorry.
-/
import Derived.Test.YbulkbhqsDoorChecked
import GoSem.Claim
import GoSem.ClaimJoined
import GoSem.ClaimMapViews
import Derived.JoinedTies
import Derived.KernelRfl
namespace Go.Proofs.YbulkbhqsDoor
/- THE CELL 'sum', in the pinned program and in every row, IS THE sha256 OF THE DUMP (.gsa) THAT YbulkbhqsDoorProg.lean LOADS. Nothing in Lean hashes anything: it is a label: what it is worth is what the hold of that sum in a sandbox is worth. -/
noncomputable def Ybad.pinned : Pinned := { name := "ybulkbhqsdoor", sum := "55181c363f03f46ab67d59708c53251c9694d24b228fa52291a3f35ba40ec4fa", checked := Ybad.checked }
namespace Rows
def none {H : Type} : Left H := { results := [], args := [] }

/- WHAT THE LISTED PACKAGE-LEVEL VARIABLES READ AS WHEN THE CALL BEGINS. Each datum BY PROGRAM (the guide's laid-datum.mjs) off the statement by which the dump's own 'gosem.cut.vars' lays the variable. In a bare row this is a premise. The card (YbulkbhqsDoorCards.lean) ties it to the program's text. -/
def laid_math_bits_deBruijn32tab {H : Type} : DataW H := .agg [.lit (.int .u8 0), .lit (.int .u8 1), .lit (.int .u8 28), .lit (.int .u8 2), .lit (.int .u8 29), .lit (.int .u8 14), .lit (.int .u8 24), .lit (.int .u8 3), .lit (.int .u8 30), .lit (.int .u8 22), .lit (.int .u8 20), .lit (.int .u8 15), .lit (.int .u8 25), .lit (.int .u8 17), .lit (.int .u8 4), .lit (.int .u8 8), .lit (.int .u8 31), .lit (.int .u8 27), .lit (.int .u8 13), .lit (.int .u8 23), .lit (.int .u8 21), .lit (.int .u8 19), .lit (.int .u8 16), .lit (.int .u8 7), .lit (.int .u8 26), .lit (.int .u8 12), .lit (.int .u8 18), .lit (.int .u8 6), .lit (.int .u8 11), .lit (.int .u8 5), .lit (.int .u8 10), .lit (.int .u8 9)]
def laid_example_com_keyfence_keyfence_compatible {H : Type} : DataW H := .agg [.agg [.lit (.bool false), .lit (.bool false), .lit (.bool false), .lit (.bool false), .lit (.bool false)], .agg [.lit (.bool false), .lit (.bool true), .lit (.bool true), .lit (.bool true), .lit (.bool false)], .agg [.lit (.bool false), .lit (.bool true), .lit (.bool true), .lit (.bool false), .lit (.bool false)], .agg [.lit (.bool false), .lit (.bool true), .lit (.bool false), .lit (.bool true), .lit (.bool false)], .agg [.lit (.bool false), .lit (.bool false), .lit (.bool false), .lit (.bool false), .lit (.bool false)]]

/-- 'keyfence.LawS2930CEndReleases': WHATEVER THE INPUT: true; the input reads as it did. -/
def lawS2930CEndReleasesSpec : ChangeSpec := { name := "lawS2930CEndReleases", vars := ["example.com/keyfence/keyfence.compatible"], fn := fun _ => fun
  | [d1, d2, g1] => { results := [.lit (.bool true)], args := [d1, d2], vars := [g1] }
  | _ => none }
def lawS2930CEndReleasesRow : OpenClaim := { program := "ybulkbhqsdoor", sum := "55181c363f03f46ab67d59708c53251c9694d24b228fa52291a3f35ba40ec4fa", func := "example.com/keyfence/keyfence.LawS2930CEndReleases", spec := "lawS2930CEndReleases", unfollowed := true, recurses := true, named := ["math/bits.deBruijn32tab", "example.com/keyfence/keyfence.compatible"], apart := false, laid := [("math/bits.deBruijn32tab", laid_math_bits_deBruijn32tab), ("example.com/keyfence/keyfence.compatible", laid_example_com_keyfence_keyfence_compatible)] }
def LawS2930CEndReleasesSaid : Prop := lawS2930CEndReleasesRow.holds Ybad.pinned (OpenSpec.ofChange lawS2930CEndReleasesSpec)

/-- ITS FALSE NEIGHBOUR: 'it returns false'. Refute it at one input. -/
def lawS2930CEndReleasesWrong : ChangeSpec := { name := "lawS2930CEndReleases", vars := ["example.com/keyfence/keyfence.compatible"], fn := fun _ => fun
  | [d1, d2, g1] => { results := [.lit (.bool false)], args := [d1, d2], vars := [g1] }
  | _ => none }
def LawS2930CEndReleasesWrongFalsely : Prop := lawS2930CEndReleasesRow.holds Ybad.pinned (OpenSpec.ofChange lawS2930CEndReleasesWrong)

end Rows
end Go.Proofs.YbulkbhqsDoor
