/-
  DERIVED. CLOSED FACTS THAT BOTH CARDS OF THIS SEAT WANT; what 'laid' gives: strconv's table; a slice of bytes opened; the door's own heap as the witness.
-/
import Derived.Test.YbulkbguDoorRows
import Derived.Test.YbulkbguDoorTie
import Derived.Test.YbulkbguDoorCards
import Derived.Test.YbulkbguDoorModel
import Derived.ProofKit
import Derived.LaidLaws
import Derived.LaidMore
import Derived.LaidHandle
import Derived.SevenTiedAt
import Derived.Stop.LaidErr
import Derived.Lib.LaidTab
namespace Go.Proofs.YbulkbguDoor
open Go.ChangeShapes Go.WideShapes Go.ChangeAt Go.RowKit

theorem Ybad.own : ownKnob Ybad.prog.godebug = none := by kernel_rfl
theorem Ybad.laidOut : laidOutB Ybad.prog = true := by kernel_rfl
theorem Ybad.cells5 : Ybad.prog.cellsOf 5 = 1 := by kernel_rfl

abbrev laid3 : List (String × DataW Unit) := Rows.lawS0111BModelRow.laid

theorem door_met (os : Os) (args : Array Value) : laidMetH Ybad.prog laid3 ((World.doorLaid Ybad.prog 24 os).forCall (fun _ _ => 0) ⟨#[], args, []⟩).memory :=
  laidMetH_of_parts3 (fuel := 8) (laidMet_of_run' 8 (by kernel_rfl) (by kernel_rfl)) (by kernel_rfl) (by kernel_rfl)

theorem tab_data : (Rows.laid_internal_strconv_uint64pow10 : DataW Unit) = Lib.tabData .u64 Lib.pow10Tab := by
  unfold Rows.laid_internal_strconv_uint64pow10 Lib.tabData
  rw [show Lib.pow10Tab = [1, 10, 100, 1000, 10000, 100000, 1000000, 10000000, 100000000, 1000000000, 10000000000, 100000000000, 1000000000000, 10000000000000, 100000000000000, 1000000000000000, 10000000000000000, 100000000000000000, 1000000000000000000, 10000000000000000000] by decide]
  rfl

theorem tab_of_laid {W : World} (hL : laidMetH Ybad.prog laid3 W) : Tab W := by
  rw [MakeChecks.laidMetH_plain _ _ _ (by kernel_rfl)] at hL
  have hL' := hL.tail.tail
  rw [tab_data] at hL'
  exact Lib.tabIs_of_head (g := 0) (t := 56) (e := 33) (n := 20) (by kernel_rfl) (by kernel_rfl) Ybad.underlying56 Ybad.underlying33 (by kernel_rfl) (by kernel_rfl) hL'

/-- A slice of bytes that came in: its elements as bytes. -/
theorem bytes_of_trod {H : Type} {enc : TypeId × Value → H} {W : World} {a : Option Addr} {len cap : Nat} {d : DataW H} {p : List MemPlace}
    (h : DataW.Trod enc Ybad.prog W 0 (fun _ => true) true 22 (.slice a len cap) d p) : ∃ l : List UInt8, l.length = len ∧ IsBytes W a l ∧ len ≤ 9223372036854775807 := by
  obtain ⟨fuel, hf⟩ := h
  rcases open_ints Ybad.underlying22 Ybad.underlying5 Ybad.cells5 hf with ⟨hcs, _⟩ | ⟨x, l, c, zs, hcs, _, hl, hm, hz, _, hcell, hwz⟩
  · simp [Value.cells] at hcs
    obtain ⟨rfl, rfl, rfl⟩ := hcs
    exact ⟨[], rfl, Or.inl rfl, by omega⟩
  · simp [Value.cells] at hcs
    obtain ⟨rfl, rfl, rfl⟩ := hcs
    unfold maxLen at hm
    have hzl : zs.length = cap := by simpa using hz
    refine ⟨(zs.take len).map fun z => z.toNat.toUInt8, by simp; omega, ?_, by omega⟩
    by_cases h0 : len = 0
    · left; simp [h0]
    · right
      obtain ⟨b, off, spot⟩ := x
      have hc0 := hcell 0 (by omega)
      have hspot : spot = none := by simpa [Addr.add] using World.cell?_spot hc0
      subst hspot
      refine ⟨b, off, rfl, fun j hj => ?_⟩
      have hj' : j < len := by simpa [hzl, Nat.min_eq_left hl] using hj
      have hc := hcell j (by omega)
      rw [Addr.add_lit] at hc
      rw [hc]
      have hmem : zs.getD j 0 ∈ zs := by
        rw [List.getD_eq_getElem?_getD, List.getElem?_eq_getElem (by omega : j < zs.length)]
        exact List.getElem_mem _
      have hw := hwz _ hmem
      simp [Lit.wf, IntKind.min, IntKind.max, IntKind.signed, IntKind.bits] at hw
      have hj2 : j < zs.length := by omega
      simp only [List.getElem_map, List.getElem_take]
      have hg : zs.getD j 0 = zs[j] := by rw [List.getD_eq_getElem?_getD, List.getElem?_eq_getElem hj2]; rfl
      rw [List.getElem?_eq_getElem hj2] at hw
      simp only [Option.getD_some] at hw
      rw [hg]
      have : (zs[j].toNat.toUInt8).toNat = zs[j].toNat := by
        simp [UInt8.toNat_ofNat']; omega
      rw [this]
      congr 2
      omega

end Go.Proofs.YbulkbguDoor
