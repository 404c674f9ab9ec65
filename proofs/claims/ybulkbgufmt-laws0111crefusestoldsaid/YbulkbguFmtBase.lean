/-
  DERIVED. CLOSED FACTS ON THE PROGRAM THAT EVERY CARD OF THIS SEAT WANTS; what 'laid' gives at the sentinel; the door's own heap as the witness.
-/
import Derived.Test.YbulkbguFmtRows
import Derived.Test.YbulkbguFmtTie
import Derived.Test.YbulkbguFmtCards
import Derived.Test.YbulkbguFmtNode
import Derived.ProofKit
import Derived.Stop.JoinedAt
import Derived.Stop.Texts
import Derived.Stop.LaidErr
import Derived.Stop.JoinedTold
import Derived.LaidMore
import Derived.Deep.DeepWitnessRef
import Derived.SevenTiedAt
namespace Go.Proofs.YbulkbguFmt
open Go.ChangeShapes Go.WideShapes Go.ChangeAt Go.RowKit Go.Kit
open Go.Extern.Stop Go.Stop Go.Extern

theorem Ybaf.own : ownKnob Ybaf.prog.godebug = none := by kernel_rfl
theorem Ybaf.laidOut : laidOutB Ybaf.pinned.checked.prog = true := by kernel_rfl
theorem Ybaf.stops : Ybaf.pinned.checked.prog.stops = ["fmt.errorf", "fmt.Sprintf"] := by kernel_rfl
theorem Ybaf.stopKnobs : Ybaf.pinned.checked.prog.stopKnobs = [] := by kernel_rfl
theorem Ybaf.quiet (os : Os) : Stop.quiet Ybaf.pinned.checked.prog os := by
  intro k hk
  rw [Ybaf.stopKnobs] at hk
  cases hk

/-- The sentinel's name, as the rows bear it. -/
abbrev gName : String := Rows.lawS0111AValidSpec.vars.headD ""
abbrev dName : DataW Unit → String
  | .iface n _ => n
  | _ => ""
/-- The sentinel's dynamic type's name, as the rows' datum bears it. -/
abbrev esName : String := dName Rows.laid_example_com_causalis_causalis_ErrInvalidNode
abbrev esText : List UInt8 := [110, 111, 100, 101, 32, 105, 100, 32, 109, 117, 115, 116, 32, 98, 101, 32, 49, 32, 116, 111, 32, 50, 53, 53, 32, 98, 121, 116, 101, 115]
theorem Ybaf.gN : Ybaf.prog.globalNamed gName = some 0 := by kernel_rfl
theorem Ybaf.gNType : (Ybaf.prog.globals[0]?).map (·.type) = some 27 := by kernel_rfl
theorem Ybaf.cells113 : Ybaf.prog.cellsOf 113 = 1 := by kernel_rfl
theorem Ybaf.cells9 : Ybaf.prog.cellsOf 9 = 1 := by kernel_rfl
theorem Ybaf.star : "*" ++ "errors.errorString" = esName := by decide
theorem Ybaf.row111 (u : TypeId) (h : Ybaf.prog.typeName? 3 u = some esName) : u = 111 :=
  typeName_ptr_named (nm := "errors.errorString") (by rw [Ybaf.star]; kernel_rfl) (by kernel_rfl) (by decide) u (by rw [Ybaf.star]; exact h)

/-- The sentinel alone, as the rows of LawS0111AValid and LawS0111ANode list it. -/
abbrev laid1 : List (String × DataW Unit) := Rows.lawS0111AValidRow.laid
/-- .. and behind the three tables, as the other three rows list it. -/
abbrev laid4 : List (String × DataW Unit) := Rows.lawS0111CRoundTripRow.laid

theorem door1_met (os : Os) (args : Array Value) : laidMetH Ybaf.prog laid1 ((World.doorLaid Ybaf.prog 43 os).forCall (fun _ _ => 0) ⟨#[], args, []⟩).memory :=
  laidMetH_of_parts3 (fuel := 8) (laidMet_of_run' 8 (by kernel_rfl) (by kernel_rfl)) (by kernel_rfl) (by kernel_rfl)

theorem door4_met (os : Os) (args : Array Value) : laidMetH Ybaf.prog laid4 ((World.doorLaid Ybaf.prog 43 os).forCall (fun _ _ => 0) ⟨#[], args, []⟩).memory :=
  laidMetH_of_parts3 (fuel := 8) (laidMet_of_run' 8 (by kernel_rfl) (by kernel_rfl)) (by kernel_rfl) (by kernel_rfl)

/-- WHAT THE CONDITION GIVES: the variable holds a pointer to an errorString whose text is the listed one. -/
theorem sentinel_of_laid1 {W : World} (hL : laidMetH Ybaf.prog laid1 W) :
    ∃ (a : Addr) (s : ByteArray), W.var? Ybaf.prog gName = some #[.iface 111 (.pointer (some a))] ∧ W.cell? a = some (.string s) ∧ s.data.toList = esText ∧ s.size ≤ maxLen := by
  rw [MakeChecks.laidMetH_plain _ _ _ (by kernel_rfl)] at hL
  exact laid_sentinel (n := gName) (nm := esName) (r := []) hL Ybaf.gN Ybaf.gNType Ybaf.underlying27 Ybaf.row111 Ybaf.underlying111 Ybaf.underlying113 rfl rfl Ybaf.underlying9 Ybaf.cells113 Ybaf.cells9
theorem sentinel_of_laid4 {W : World} (hL : laidMetH Ybaf.prog laid4 W) :
    ∃ (a : Addr) (s : ByteArray), W.var? Ybaf.prog gName = some #[.iface 111 (.pointer (some a))] ∧ W.cell? a = some (.string s) ∧ s.data.toList = esText ∧ s.size ≤ maxLen := by
  rw [MakeChecks.laidMetH_plain _ _ _ (by kernel_rfl)] at hL
  have hL' := hL.tail.tail.tail
  exact laid_sentinel (n := gName) (nm := esName) (r := []) hL' Ybaf.gN Ybaf.gNType Ybaf.underlying27 Ybaf.row111 Ybaf.underlying111 Ybaf.underlying113 rfl rfl Ybaf.underlying9 Ybaf.cells113 Ybaf.cells9

theorem glob_of_var {W : World} {a : Addr} (hv : W.var? Ybaf.prog gName = some #[.iface 111 (.pointer (some a))]) : W.cell? ⟨0, 0, none⟩ = some (.iface 111 (.pointer (some a))) := by
  simpa using World.var?_cell Ybaf.gN hv 0

end Go.Proofs.YbulkbguFmt
