/-
  DERIVED. GIVEN WITH THE SEED: THE CARDS: each row of YbulkbguDoorRows.lean that lists a variable, with what it lists TIED to the program's text (the seventh form; the later family's looks); each row that meets fmt, with fmt's text TOLD by the authors' own Lean function (tested against real Go, not proved from fmt's source: count such statements apart). THE CARD IS WHAT COUNTS. Prove the row's statement (the work); the ties are given (YbulkbguDoorTie.lean); close each card by the builder's one call (the guide's Derived/Test/ToyasCard.lean, 'card_holds'). Laid BY PROGRAM, IN A SANDBOX (cutbox-door.mjs). By AI agents, Wed Nov 11 2026. No macro, syntax, notation, axiom, sorry.
-/
import Derived.Test.YbulkbguDoorRows
import GoSem.ClaimSeven
namespace Go.Proofs.YbulkbguDoor
namespace Rows

/-- THE TIED CARD OF 'wire.LawS0111BRoundTrip'. -/
def lawS0111BRoundTripCard : Claim7 := { stood := { row := lawS0111BRoundTripRow, standIns := [], harness := (true, "8125869fef5f3e287eb40c680029699f152ebcab4e05f5fb5b56fca7af4a2518"), looks := false }, kinds := [], alts := [], laidByText := true, laidKinds := [.data, .data, .data], laidTests := true, laidLooks := .later }
def LawS0111BRoundTripCardSaid : Prop := Claim7.holds Ybad.pinned (.plain (OpenSpec.ofChange lawS0111BRoundTripSpec)) lawS0111BRoundTripCard

/-- THE TIED CARD OF 'wire.LawS0111BModel'. -/
def lawS0111BModelCard : Claim7 := { stood := { row := lawS0111BModelRow, standIns := [], harness := (true, "8125869fef5f3e287eb40c680029699f152ebcab4e05f5fb5b56fca7af4a2518"), looks := false }, kinds := [], alts := [], laidByText := true, laidKinds := [.data, .data, .data], laidTests := true, laidLooks := .later }
def LawS0111BModelCardSaid : Prop := Claim7.holds Ybad.pinned (.plain (OpenSpec.ofChange lawS0111BModelSpec)) lawS0111BModelCard
end Rows
end Go.Proofs.YbulkbguDoor
