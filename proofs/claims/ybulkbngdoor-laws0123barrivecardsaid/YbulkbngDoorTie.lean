/-
  DERIVED. GIVEN WITH THE SEED: THE PROGRAM's TIES (one call each: nine closed facts by the kernel) AND EACH ROW's TIE, after the 31st guide's Derived/Test/Toyas{Tie, Card}.lean. No idea stands in it: it is a product of the set-up. Laid BY PROGRAM, IN A SANDBOX (cutbox-door.mjs). By AI agents, Wed Nov 11 2026. No macro, syntax, notation, axiom, sorry.
-/
import Derived.Test.YbulkbngDoorRows
import Derived.LaidByTextLater
import Derived.SevenTiedAt
import Derived.LaidSub
import Derived.LaidOnce
namespace Go.Proofs.YbulkbngDoor
open Go
set_option maxRecDepth 100000
theorem seatTie1 : Ybad.prog.laidByTextLater [("example.com/deltaweave/deltaweave/internal/xz.afterLiteral", Rows.laid_example_com_deltaweave_deltaweave_internal_xz_afterLiteral), ("example.com/deltaweave/deltaweave/internal/xz.afterMatch", Rows.laid_example_com_deltaweave_deltaweave_internal_xz_afterMatch), ("example.com/deltaweave/deltaweave/internal/xz.afterRep", Rows.laid_example_com_deltaweave_deltaweave_internal_xz_afterRep), ("example.com/deltaweave/deltaweave/internal/xz.afterShortRep", Rows.laid_example_com_deltaweave_deltaweave_internal_xz_afterShortRep)] [.data, .data, .data, .data] true :=
  Program.laidByTextLater_by_one 29 8 13 (by kernel_rfl) (by kernel_rfl) (by kernel_rfl) (by kernel_rfl) (by kernel_rfl) (by kernel_rfl) (fun _ _ => by kernel_rfl)
theorem noOwnUnsafe : Ybad.pinned.checked.prog.headLifts.contains "ownunsafe" = false := by kernel_rfl
theorem tie : Ybad.prog.laidByTextLater [("example.com/deltaweave/deltaweave/internal/xz.afterLiteral", Rows.laid_example_com_deltaweave_deltaweave_internal_xz_afterLiteral), ("example.com/deltaweave/deltaweave/internal/xz.afterMatch", Rows.laid_example_com_deltaweave_deltaweave_internal_xz_afterMatch), ("example.com/deltaweave/deltaweave/internal/xz.afterRep", Rows.laid_example_com_deltaweave_deltaweave_internal_xz_afterRep), ("example.com/deltaweave/deltaweave/internal/xz.afterShortRep", Rows.laid_example_com_deltaweave_deltaweave_internal_xz_afterShortRep)] [.data, .data, .data, .data] true :=
  Program.laidByTextLater.sub seatTie1 ["example.com/deltaweave/deltaweave/internal/xz.afterLiteral", "example.com/deltaweave/deltaweave/internal/xz.afterMatch", "example.com/deltaweave/deltaweave/internal/xz.afterRep", "example.com/deltaweave/deltaweave/internal/xz.afterShortRep"] (by kernel_rfl) (by kernel_rfl)
theorem lawS0123BArrive_row_tie : Rows.lawS0123BArriveRow.laidByTextAt .later Ybad.pinned [.data, .data, .data, .data] true :=
  OpenClaim.laidByTextAt_later rfl rfl tie noOwnUnsafe
end Go.Proofs.YbulkbngDoor
