/-
  DERIVED. GIVEN WITH THE SEED: THE CARDS: each row of YbulkebcyDoorRows.lean that lists a variable, with what it lists TIED to the program's text (the seventh form; the later family's looks); each row that meets fmt, with fmt's text TOLD by the authors' own Lean function (tested against real Go, not proved from fmt's source: count such statements apart). THE CARD IS WHAT COUNTS. Prove the row's statement (the work); the ties are given (YbulkebcyDoorTie.lean); close each card by the builder's one call (the guide's Derived/Test/ToyasCard.lean, 'card_holds'). Laid BY PROGRAM, IN A SANDBOX (cutbox-door.mjs). By AI agents, Wed Nov 11 2026. No macro, syntax, notation, axiom, sorry.
-/
import Derived.Test.YbulkebcyDoorRows
import GoSem.ClaimSeven
namespace Go.Proofs.YbulkebcyDoor
namespace Rows

/-- THE TIED CARD OF 'lading.LawS6381BWhole'. -/
def lawS6381BWholeCard : Claim7 := { stood := { row := lawS6381BWholeRow, standIns := [], harness := (true, "cf859283d7caffbb5c2336c5da7c95041313b3106a5c09c3ed10bac998e0b2e6"), looks := true }, kinds := [], alts := [], laidByText := true, laidKinds := [.data, .data, .data], laidTests := true, laidLooks := .later }
def LawS6381BWholeCardSaid : Prop := Claim7.holds Ybad.pinned (.plain (OpenSpec.ofChange lawS6381BWholeSpec)) lawS6381BWholeCard

/-- THE TIED CARD OF 'lading.LawS6381CWhole'. -/
def lawS6381CWholeCard : Claim7 := { stood := { row := lawS6381CWholeRow, standIns := [], harness := (true, "cf859283d7caffbb5c2336c5da7c95041313b3106a5c09c3ed10bac998e0b2e6"), looks := true }, kinds := [], alts := [], laidByText := true, laidKinds := [.sentinel], laidTests := true, laidLooks := .later }
def LawS6381CWholeCardSaid : Prop := Claim7.holds Ybad.pinned (.plain (OpenSpec.ofChange lawS6381CWholeSpec)) lawS6381CWholeCard
end Rows
end Go.Proofs.YbulkebcyDoor
