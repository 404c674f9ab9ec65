/-
  DERIVED. GIVEN WITH THE SEED: THE PROGRAM's TIES (one call each: nine closed facts by the kernel) AND EACH ROW's TIE, after the 31st guide's Derived/Test/Toyas{Tie, Card}.lean. No idea stands in it: it is a product of the set-up. Laid BY PROGRAM, IN A SANDBOX (cutbox-door.mjs). By AI agents, Wed Nov 11 2026. No macro, syntax, notation, axiom, sorry.
-/
import Derived.Test.YbulkbguFmtRows
import Derived.LaidByTextLater
import Derived.SevenTiedAt
import Derived.LaidSub
import Derived.LaidOnce
namespace Go.Proofs.YbulkbguFmt
open Go
set_option maxRecDepth 100000
theorem seatTie1 : Ybaf.prog.laidByTextLater [("math/bits.deBruijn32tab", Rows.laid_math_bits_deBruijn32tab), ("math/bits.deBruijn64tab", Rows.laid_math_bits_deBruijn64tab), ("internal/strconv.uint64pow10", Rows.laid_internal_strconv_uint64pow10), ("example.com/causalis/causalis.ErrInvalidNode", Rows.laid_example_com_causalis_causalis_ErrInvalidNode)] [.data, .data, .data, .sentinel] true :=
  Program.laidByTextLater_by_one 43 8 65 (by kernel_rfl) (by kernel_rfl) (by kernel_rfl) (by kernel_rfl) (by kernel_rfl) (by kernel_rfl) (fun _ _ => by kernel_rfl)
theorem noOwnUnsafe : Ybaf.pinned.checked.prog.headLifts.contains "ownunsafe" = false := by kernel_rfl
theorem tie : Ybaf.prog.laidByTextLater [("example.com/causalis/causalis.ErrInvalidNode", Rows.laid_example_com_causalis_causalis_ErrInvalidNode)] [.sentinel] true :=
  Program.laidByTextLater.sub seatTie1 ["example.com/causalis/causalis.ErrInvalidNode"] (by kernel_rfl) (by kernel_rfl)
theorem lawS0111AValid_row_tie : Rows.lawS0111AValidRow.laidByTextAt .later Ybaf.pinned [.sentinel] true :=
  OpenClaim.laidByTextAt_later rfl rfl tie noOwnUnsafe
theorem lawS0111ANode_row_tie : Rows.lawS0111ANodeRow.laidByTextAt .later Ybaf.pinned [.sentinel] true :=
  OpenClaim.laidByTextAt_later rfl rfl tie noOwnUnsafe
theorem tie2 : Ybaf.prog.laidByTextLater [("math/bits.deBruijn32tab", Rows.laid_math_bits_deBruijn32tab), ("math/bits.deBruijn64tab", Rows.laid_math_bits_deBruijn64tab), ("internal/strconv.uint64pow10", Rows.laid_internal_strconv_uint64pow10), ("example.com/causalis/causalis.ErrInvalidNode", Rows.laid_example_com_causalis_causalis_ErrInvalidNode)] [.data, .data, .data, .sentinel] true :=
  Program.laidByTextLater.sub seatTie1 ["math/bits.deBruijn32tab", "math/bits.deBruijn64tab", "internal/strconv.uint64pow10", "example.com/causalis/causalis.ErrInvalidNode"] (by kernel_rfl) (by kernel_rfl)
theorem lawS0111CRoundTrip_row_tie : Rows.lawS0111CRoundTripRow.laidByTextAt .later Ybaf.pinned [.data, .data, .data, .sentinel] true :=
  OpenClaim.laidByTextAt_later rfl rfl tie2 noOwnUnsafe
theorem lawS0111CCanonical_row_tie : Rows.lawS0111CCanonicalRow.laidByTextAt .later Ybaf.pinned [.data, .data, .data, .sentinel] true :=
  OpenClaim.laidByTextAt_later rfl rfl tie2 noOwnUnsafe
theorem lawS0111CRefuses_row_tie : Rows.lawS0111CRefusesRow.laidByTextAt .later Ybaf.pinned [.data, .data, .data, .sentinel] true :=
  OpenClaim.laidByTextAt_later rfl rfl tie2 noOwnUnsafe
end Go.Proofs.YbulkbguFmt
