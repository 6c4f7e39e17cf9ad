/-
  DERIVED. GIVEN WITH THE SEED: THE CARDS: each row of YbulkbhqsDoorRows.lean that lists a variable, with what it lists TIED to the program's text (the seventh form; the later family's looks); each row that meets fmt, with fmt's text TOLD by the authors' own Lean function (tested against real Go, not proved from fmt's source: count such statements apart). THE CARD IS WHAT COUNTS. Prove the row's statement (the work); the ties are given (YbulkbhqsDoorTie.lean); close each card by the builder's one call (the guide's Derived/Test/ToyasCard.lean, 'card_holds'). Laid BY PROGRAM, IN A SANDBOX (cutbox-door.mjs). By AI agents, Wed Nov 11 2026. No macro, syntax, notation, axiom, sorry.
-/
import Derived.Test.YbulkbhqsDoorRows
import GoSem.ClaimSeven
namespace Go.Proofs.YbulkbhqsDoor
namespace Rows

/-- THE TIED CARD OF 'keyfence.LawS2930CEndReleases'. -/
def lawS2930CEndReleasesCard : Claim7 := { stood := { row := lawS2930CEndReleasesRow, standIns := [], harness := (true, "68e25290de84ff285e66de5e593a34377f780c44074cbb392b0e9ba314c1d80b"), looks := false }, kinds := [], alts := [], laidByText := true, laidKinds := [.data, .data], laidTests := true, laidLooks := .later }
def LawS2930CEndReleasesCardSaid : Prop := Claim7.holds Ybad.pinned (.plain (OpenSpec.ofChange lawS2930CEndReleasesSpec)) lawS2930CEndReleasesCard
end Rows
end Go.Proofs.YbulkbhqsDoor
