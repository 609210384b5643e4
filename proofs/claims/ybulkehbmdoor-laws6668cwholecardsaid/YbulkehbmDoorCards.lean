/-
  DERIVED. GIVEN WITH THE SEED: THE CARDS: each row of YbulkehbmDoorRows.lean that lists a variable, with what it lists TIED to the program's text (the seventh form; the later family's looks); each row that meets fmt, with fmt's text TOLD by the authors' own Lean function (tested against real Go, not proved from fmt's source: count such statements apart). THE CARD IS WHAT COUNTS. Prove the row's statement (the work); the ties are given (YbulkehbmDoorTie.lean); close each card by the builder's one call (the guide's Derived/Test/ToyasCard.lean, 'card_holds'). Laid BY PROGRAM, IN A SANDBOX (cutbox-door.mjs). By AI agents, Wed Nov 11 2026. No macro, syntax, notation, axiom, sorry.
-/
import Derived.Test.YbulkehbmDoorRows
import GoSem.ClaimSeven
namespace Go.Proofs.YbulkehbmDoor
namespace Rows

/-- THE TIED CARD OF 'sim.LawS6668CWhole'. -/
def lawS6668CWholeCard : Claim7 := { stood := { row := lawS6668CWholeRow, standIns := [], harness := (true, "321a3c4daa9eac76c3ec3567ea3c40641283090b5fba4b8a77e923d69e553c98"), looks := false }, kinds := [], alts := [], laidByText := true, laidKinds := [.called, .zero], laidTests := true, laidLooks := .later }
def LawS6668CWholeCardSaid : Prop := Claim7.holds Ybad.pinned (.plain (OpenSpec.ofChange lawS6668CWholeSpec)) lawS6668CWholeCard
end Rows
end Go.Proofs.YbulkehbmDoor
