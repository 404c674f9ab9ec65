/-
  DERIVED. GIVEN WITH THE SEED: THE CARDS: each row of YbulkbguFmtRows.lean that lists a variable, with what it lists TIED to the program's text (the seventh form; the later family's looks); each row that meets fmt, with fmt's text TOLD by the authors' own Lean function (tested against real Go, not proved from fmt's source: count such statements apart). THE CARD IS WHAT COUNTS. Prove the row's statement (the work); the ties are given (YbulkbguFmtTie.lean); close each card by the builder's one call (the guide's Derived/Test/ToyasCard.lean, 'card_holds'). Laid BY PROGRAM, IN A SANDBOX (cutbox-door.mjs). By AI agents, Wed Nov 11 2026. No macro, syntax, notation, axiom, sorry.
-/
import Derived.Test.YbulkbguFmtRows
import GoSem.ClaimSeven
namespace Go.Proofs.YbulkbguFmt
namespace Rows

/-- THE TOLD AND TIED CARD OF 'causalis.LawS0111AValid'. -/
def lawS0111AValidCard : Claim7 := { stood := { row := lawS0111AValidRow, standIns := [], harness := (true, "9983a9c819eebf8e6c94ab64fbd35d49ff8980334b268ceaf920fbea497a4f8c"), looks := true }, told := true, laidByText := true, laidKinds := [.sentinel], laidTests := true, laidLooks := .later, goes := false }
def LawS0111AValidToldSaid : Prop := Claim7.holds Ybaf.pinned (.plain (OpenSpec.ofChange lawS0111AValidSpec)) lawS0111AValidCard
/-- ITS FALSE NEIGHBOUR. Refute it at one input. -/
def LawS0111AValidToldWrongFalsely : Prop := Claim7.holds Ybaf.pinned (.plain (OpenSpec.ofChange lawS0111AValidWrong)) lawS0111AValidCard

/-- THE TOLD AND TIED CARD OF 'causalis.LawS0111ANode'. -/
def lawS0111ANodeCard : Claim7 := { stood := { row := lawS0111ANodeRow, standIns := [], harness := (true, "9983a9c819eebf8e6c94ab64fbd35d49ff8980334b268ceaf920fbea497a4f8c"), looks := true }, told := true, laidByText := true, laidKinds := [.sentinel], laidTests := true, laidLooks := .later, goes := false }
def LawS0111ANodeToldSaid : Prop := Claim7.holds Ybaf.pinned (.plain (OpenSpec.ofChange lawS0111ANodeSpec)) lawS0111ANodeCard
/-- ITS FALSE NEIGHBOUR. Refute it at one input. -/
def LawS0111ANodeToldWrongFalsely : Prop := Claim7.holds Ybaf.pinned (.plain (OpenSpec.ofChange lawS0111ANodeWrong)) lawS0111ANodeCard

/-- THE TOLD AND TIED CARD OF 'causalis.LawS0111CRoundTrip'. -/
def lawS0111CRoundTripCard : Claim7 := { stood := { row := lawS0111CRoundTripRow, standIns := [], harness := (true, "9983a9c819eebf8e6c94ab64fbd35d49ff8980334b268ceaf920fbea497a4f8c"), looks := true }, told := true, laidByText := true, laidKinds := [.data, .data, .data, .sentinel], laidTests := true, laidLooks := .later, goes := false }
def LawS0111CRoundTripToldSaid : Prop := Claim7.holds Ybaf.pinned (.plain (OpenSpec.ofChange lawS0111CRoundTripSpec)) lawS0111CRoundTripCard
/-- ITS FALSE NEIGHBOUR. Refute it at one input. -/
def LawS0111CRoundTripToldWrongFalsely : Prop := Claim7.holds Ybaf.pinned (.plain (OpenSpec.ofChange lawS0111CRoundTripWrong)) lawS0111CRoundTripCard

/-- THE TOLD AND TIED CARD OF 'causalis.LawS0111CCanonical'. -/
def lawS0111CCanonicalCard : Claim7 := { stood := { row := lawS0111CCanonicalRow, standIns := [], harness := (true, "9983a9c819eebf8e6c94ab64fbd35d49ff8980334b268ceaf920fbea497a4f8c"), looks := true }, told := true, laidByText := true, laidKinds := [.data, .data, .data, .sentinel], laidTests := true, laidLooks := .later, goes := false }
def LawS0111CCanonicalToldSaid : Prop := Claim7.holds Ybaf.pinned (.plain (OpenSpec.ofChange lawS0111CCanonicalSpec)) lawS0111CCanonicalCard
/-- ITS FALSE NEIGHBOUR. Refute it at one input. -/
def LawS0111CCanonicalToldWrongFalsely : Prop := Claim7.holds Ybaf.pinned (.plain (OpenSpec.ofChange lawS0111CCanonicalWrong)) lawS0111CCanonicalCard

/-- THE TOLD AND TIED CARD OF 'causalis.LawS0111CRefuses'. -/
def lawS0111CRefusesCard : Claim7 := { stood := { row := lawS0111CRefusesRow, standIns := [], harness := (true, "9983a9c819eebf8e6c94ab64fbd35d49ff8980334b268ceaf920fbea497a4f8c"), looks := true }, told := true, laidByText := true, laidKinds := [.data, .data, .data, .sentinel], laidTests := true, laidLooks := .later, goes := false }
def LawS0111CRefusesToldSaid : Prop := Claim7.holds Ybaf.pinned (.plain (OpenSpec.ofChange lawS0111CRefusesSpec)) lawS0111CRefusesCard
/-- ITS FALSE NEIGHBOUR. Refute it at one input. -/
def LawS0111CRefusesToldWrongFalsely : Prop := Claim7.holds Ybaf.pinned (.plain (OpenSpec.ofChange lawS0111CRefusesWrong)) lawS0111CRefusesCard
end Rows
end Go.Proofs.YbulkbguFmt
