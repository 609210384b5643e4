/-
  DERIVED. GIVEN WITH THE SEED: THE CARDS: each row of YbulkehcaDoorRows.lean that lists a variable, with what it lists TIED to the program's text (the seventh form; the later family's looks); each row that meets fmt, with fmt's text TOLD by the authors' own Lean function (tested against real Go, not proved from fmt's source: count such statements apart). THE CARD IS WHAT COUNTS. Prove the row's statement (the work); the ties are given (YbulkehcaDoorTie.lean); close each card by the builder's one call (the guide's Derived/Test/ToyasCard.lean, 'card_holds'). Laid BY PROGRAM, IN A SANDBOX (cutbox-door.mjs). By AI agents, Wed Nov 11 2026. No macro, syntax, notation, axiom, sorry.
-/
import Derived.Test.YbulkehcaDoorRows
import GoSem.ClaimSeven
namespace Go.Proofs.YbulkehcaDoor
namespace Rows

/-- THE TIED CARD OF 'returnslip.LawS6669BWhole'. -/
def lawS6669BWholeCard : Claim7 := { stood := { row := lawS6669BWholeRow, standIns := [], harness := (true, "a722cc0aa524d804700e40d40dd07605cdff0cf0530f5d9dc278a6b5111d81f9"), looks := true }, kinds := [], alts := [], laidByText := true, laidKinds := [.data, .pinned], laidTests := true, laidLooks := .later }
def LawS6669BWholeCardSaid : Prop := Claim7.holds Ybad.pinned (.plain (OpenSpec.ofChange lawS6669BWholeSpec)) lawS6669BWholeCard

/-- THE TIED CARD OF 'returnslip.LawS6669BBuilt'. -/
def lawS6669BBuiltCard : Claim7 := { stood := { row := lawS6669BBuiltRow, standIns := [], harness := (true, "a722cc0aa524d804700e40d40dd07605cdff0cf0530f5d9dc278a6b5111d81f9"), looks := true }, kinds := [], alts := [], laidByText := true, laidKinds := [.data, .pinned], laidTests := true, laidLooks := .later }
def LawS6669BBuiltCardSaid : Prop := Claim7.holds Ybad.pinned (.plain (OpenSpec.ofChange lawS6669BBuiltSpec)) lawS6669BBuiltCard

/-- THE TIED CARD OF 'returnslip.LawS6669CWhole'. -/
def lawS6669CWholeCard : Claim7 := { stood := { row := lawS6669CWholeRow, standIns := [], harness := (true, "a722cc0aa524d804700e40d40dd07605cdff0cf0530f5d9dc278a6b5111d81f9"), looks := true }, kinds := [], alts := [], laidByText := true, laidKinds := [.sentinel, .sentinel], laidTests := true, laidLooks := .later }
def LawS6669CWholeCardSaid : Prop := Claim7.holds Ybad.pinned (.plain (OpenSpec.ofChange lawS6669CWholeSpec)) lawS6669CWholeCard
end Rows
end Go.Proofs.YbulkehcaDoor
