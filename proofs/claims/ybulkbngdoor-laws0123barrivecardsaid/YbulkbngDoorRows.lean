/-
  NARROWER THAN 'FOR EVERY INPUT', by the rows' own cells (each row's printed sentence says how): LawS0123BArrive: laid.
  DERIVED. THE GIVEN ROWS OF THIS SEAT. 1 by the template 'for every input the law returns true; each argument reads behind the call as it read before'; 0 by the template 'total and deterministic' (their statements: YbulkbngDoorTotals.lean).
  GIVEN WITH THE SEED: the statements are not yours to turn. If you find one false, say at which input.
  Laid BY PROGRAM, IN A SANDBOX (cutbox-rows.mjs): the forced cells as the released guide's own fill.sh prints them over the translation dad2bf157f159a9e… (all of the seat's roots in one cut). By AI agents, Wed Nov 11 2026. No macro, syntax, notation, axiom, sorry.
-/
import Derived.Test.YbulkbngDoorChecked
import GoSem.Claim
import GoSem.ClaimJoined
import GoSem.ClaimMapViews
import Derived.JoinedTies
import Derived.KernelRfl
namespace Go.Proofs.YbulkbngDoor
/- THE CELL 'sum', in the pinned program and in every row, IS THE sha256 OF THE DUMP (.gsa) THAT YbulkbngDoorProg.lean LOADS. Nothing in Lean hashes anything: it is a label: what it is worth is what the hold of that sum in a sandbox is worth. -/
noncomputable def Ybad.pinned : Pinned := { name := "ybulkbngdoor", sum := "dad2bf157f159a9ea5c1b6f9d7919b0e6615cda66892276c2bd5842fb19fe87d", checked := Ybad.checked }
namespace Rows
def none {H : Type} : Left H := { results := [], args := [] }

/- WHAT THE LISTED PACKAGE-LEVEL VARIABLES READ AS WHEN THE CALL BEGINS. Each datum BY PROGRAM (the guide's laid-datum.mjs) off the statement by which the dump's own 'gosem.cut.vars' lays the variable. In a bare row this is a premise. The card (YbulkbngDoorCards.lean) ties it to the program's text. -/
def laid_example_com_deltaweave_deltaweave_internal_xz_afterLiteral {H : Type} : DataW H := .agg [.lit (.int .u32 0), .lit (.int .u32 0), .lit (.int .u32 0), .lit (.int .u32 0), .lit (.int .u32 1), .lit (.int .u32 2), .lit (.int .u32 3), .lit (.int .u32 4), .lit (.int .u32 5), .lit (.int .u32 6), .lit (.int .u32 4), .lit (.int .u32 5)]
def laid_example_com_deltaweave_deltaweave_internal_xz_afterMatch {H : Type} : DataW H := .agg [.lit (.int .u32 7), .lit (.int .u32 7), .lit (.int .u32 7), .lit (.int .u32 7), .lit (.int .u32 7), .lit (.int .u32 7), .lit (.int .u32 7), .lit (.int .u32 10), .lit (.int .u32 10), .lit (.int .u32 10), .lit (.int .u32 10), .lit (.int .u32 10)]
def laid_example_com_deltaweave_deltaweave_internal_xz_afterRep {H : Type} : DataW H := .agg [.lit (.int .u32 8), .lit (.int .u32 8), .lit (.int .u32 8), .lit (.int .u32 8), .lit (.int .u32 8), .lit (.int .u32 8), .lit (.int .u32 8), .lit (.int .u32 11), .lit (.int .u32 11), .lit (.int .u32 11), .lit (.int .u32 11), .lit (.int .u32 11)]
def laid_example_com_deltaweave_deltaweave_internal_xz_afterShortRep {H : Type} : DataW H := .agg [.lit (.int .u32 9), .lit (.int .u32 9), .lit (.int .u32 9), .lit (.int .u32 9), .lit (.int .u32 9), .lit (.int .u32 9), .lit (.int .u32 9), .lit (.int .u32 11), .lit (.int .u32 11), .lit (.int .u32 11), .lit (.int .u32 11), .lit (.int .u32 11)]

/-- 'xz.LawS0123BArrive': WHATEVER THE INPUT: true; the input reads as it did. -/
def lawS0123BArriveSpec : ChangeSpec := { name := "lawS0123BArrive", vars := ["example.com/deltaweave/deltaweave/internal/xz.afterLiteral", "example.com/deltaweave/deltaweave/internal/xz.afterShortRep", "example.com/deltaweave/deltaweave/internal/xz.afterRep", "example.com/deltaweave/deltaweave/internal/xz.afterMatch"], fn := fun _ => fun
  | [d1, d2, d3, d4, d5, g1, g2, g3, g4] => { results := [.lit (.bool true)], args := [d1, d2, d3, d4, d5], vars := [g1, g2, g3, g4] }
  | _ => none }
def lawS0123BArriveRow : OpenClaim := { program := "ybulkbngdoor", sum := "dad2bf157f159a9ea5c1b6f9d7919b0e6615cda66892276c2bd5842fb19fe87d", func := "example.com/deltaweave/deltaweave/internal/xz.LawS0123BArrive", spec := "lawS0123BArrive", named := ["example.com/deltaweave/deltaweave/internal/xz.afterLiteral", "example.com/deltaweave/deltaweave/internal/xz.afterShortRep", "example.com/deltaweave/deltaweave/internal/xz.afterRep", "example.com/deltaweave/deltaweave/internal/xz.afterMatch"], apart := false, laid := [("example.com/deltaweave/deltaweave/internal/xz.afterLiteral", laid_example_com_deltaweave_deltaweave_internal_xz_afterLiteral), ("example.com/deltaweave/deltaweave/internal/xz.afterMatch", laid_example_com_deltaweave_deltaweave_internal_xz_afterMatch), ("example.com/deltaweave/deltaweave/internal/xz.afterRep", laid_example_com_deltaweave_deltaweave_internal_xz_afterRep), ("example.com/deltaweave/deltaweave/internal/xz.afterShortRep", laid_example_com_deltaweave_deltaweave_internal_xz_afterShortRep)] }
def LawS0123BArriveSaid : Prop := lawS0123BArriveRow.holds Ybad.pinned (OpenSpec.ofChange lawS0123BArriveSpec)

/-- ITS FALSE NEIGHBOUR: 'it returns false'. Refute it at one input. -/
def lawS0123BArriveWrong : ChangeSpec := { name := "lawS0123BArrive", vars := ["example.com/deltaweave/deltaweave/internal/xz.afterLiteral", "example.com/deltaweave/deltaweave/internal/xz.afterShortRep", "example.com/deltaweave/deltaweave/internal/xz.afterRep", "example.com/deltaweave/deltaweave/internal/xz.afterMatch"], fn := fun _ => fun
  | [d1, d2, d3, d4, d5, g1, g2, g3, g4] => { results := [.lit (.bool false)], args := [d1, d2, d3, d4, d5], vars := [g1, g2, g3, g4] }
  | _ => none }
def LawS0123BArriveWrongFalsely : Prop := lawS0123BArriveRow.holds Ybad.pinned (OpenSpec.ofChange lawS0123BArriveWrong)

end Rows
end Go.Proofs.YbulkbngDoor
