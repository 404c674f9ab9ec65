/-
  DERIVED. GIVEN WITH THE SEED: THE CARDS: each row of YbulkbngDoorRows.lean that lists a variable, with what it lists TIED to the program's text (the seventh form; the later family's looks); each row that meets fmt, with fmt's text TOLD by the authors' own Lean function (tested against real Go, not proved from fmt's source: count such statements apart). THE CARD IS WHAT COUNTS. Prove the row's statement (the work); the ties are given (YbulkbngDoorTie.lean); close each card by the builder's one call (the guide's Derived/Test/ToyasCard.lean, 'card_holds'). Laid BY PROGRAM, IN A SANDBOX (cutbox-door.mjs). By AI agents, Wed Nov 11 2026. No macro, syntax, notation, axiom, sorry.
-/
import Derived.Test.YbulkbngDoorRows
import GoSem.ClaimSeven
namespace Go.Proofs.YbulkbngDoor
namespace Rows

/-- THE TIED CARD OF 'xz.LawS0123BArrive'. -/
def lawS0123BArriveCard : Claim7 := { stood := { row := lawS0123BArriveRow, standIns := [], harness := (true, "af33efc781808a884821f200e7617236ffcb0295f44931c3b2dc6a50a08cf6b8"), looks := false }, kinds := [], alts := [], laidByText := true, laidKinds := [.data, .data, .data, .data], laidTests := true, laidLooks := .later }
def LawS0123BArriveCardSaid : Prop := Claim7.holds Ybad.pinned (.plain (OpenSpec.ofChange lawS0123BArriveSpec)) lawS0123BArriveCard
end Rows
end Go.Proofs.YbulkbngDoor
