/-
  DERIVED. WHAT THE THREE CARDS OF THE CLOCK's BINARY FORM SHARE: what 'laid' gives beside the sentinel (strconv's table); a slice of bytes opened.
-/
import Derived.Test.YbulkbguFmtBase
import Derived.Test.YbulkbguFmtCanon
import Derived.Lib.LaidTab
namespace Go.Proofs.YbulkbguFmt
open Go.ChangeShapes Go.WideShapes Go.ChangeAt Go.RowKit Go.Kit
open Go.Extern.Stop Go.Stop Go.Extern

theorem tab_data : (Rows.laid_internal_strconv_uint64pow10 : DataW Unit) = Lib.tabData .u64 Lib.pow10Tab := by
  unfold Rows.laid_internal_strconv_uint64pow10 Lib.tabData
  rw [show Lib.pow10Tab = [1, 10, 100, 1000, 10000, 100000, 1000000, 10000000, 100000000, 1000000000, 10000000000, 100000000000, 1000000000000, 10000000000000, 100000000000000, 1000000000000000, 10000000000000000, 100000000000000000, 1000000000000000000, 10000000000000000000] by decide]
  rfl

theorem tab_of_laid4 {W : World} (hL : laidMetH Ybaf.prog laid4 W) : Tab W := by
  rw [MakeChecks.laidMetH_plain _ _ _ (by kernel_rfl)] at hL
  have hL' := hL.tail.tail
  rw [tab_data] at hL'
  exact Lib.tabIs_of_head (g := 2) (t := 141) (e := 22) (n := 20) (by kernel_rfl) (by kernel_rfl) Ybaf.underlying141 Ybaf.underlying22 (by kernel_rfl) (by kernel_rfl) hL'

theorem tab_lt {W : World} (h : Tab W) : 2 < W.heap.size := by
  have h0 := h
  unfold Tab Lib.TabIs at h0
  have := World.var?_cell (by kernel_rfl : Ybaf.prog.globalNamed "internal/strconv.uint64pow10" = some 2) h0 0
  have h1 : W.cell? ⟨2, 0, none⟩ = some (.int .u64 1) := by
    have e : Lib.pow10Tab[0]? = some 1 := by decide
    simpa [e] using this
  exact World.block_lt_of_cell? _ _ h1

theorem Ybaf.cells5 : Ybaf.prog.cellsOf 5 = 1 := by kernel_rfl

/-- A slice of bytes that came in: its elements as bytes. -/
theorem bytes_of_trod {H : Type} {enc : TypeId × Value → H} {W : World} {a : Option Addr} {len cap : Nat} {d : DataW H} {p : List MemPlace}
    (h : DataW.Trod enc Ybaf.prog W 0 (fun _ => true) true 35 (.slice a len cap) d p) : ∃ l : List UInt8, l.length = len ∧ InBytes W a cap l ∧ len ≤ 9223372036854775807 := by
  obtain ⟨fuel, hf⟩ := h
  rcases open_ints Ybaf.underlying35 Ybaf.underlying5 Ybaf.cells5 hf with ⟨hcs, _⟩ | ⟨x, l, c, zs, hcs, _, hl, hm, hz, _, hcell, hwz⟩
  · simp [Value.cells] at hcs
    obtain ⟨rfl, rfl, rfl⟩ := hcs
    exact ⟨[], rfl, Or.inl rfl, by omega⟩
  · simp [Value.cells] at hcs
    obtain ⟨rfl, rfl, rfl⟩ := hcs
    unfold maxLen at hm
    have hzl : zs.length = cap := by simpa using hz
    have hlen : ((zs.take len).map fun z => z.toNat.toUInt8).length = len := by simp; omega
    refine ⟨(zs.take len).map fun z => z.toNat.toUInt8, hlen, ?_, by omega⟩
    by_cases h0 : len = 0
    · left; simp [h0]
    · right
      obtain ⟨b, off, spot⟩ := x
      have hc0 := hcell 0 (by omega)
      have hspot : spot = none := by simpa [Addr.add] using World.cell?_spot hc0
      subst hspot
      refine ⟨b, off, rfl, fun j hj => ?_, by omega, by omega⟩
      have hj' : j < len := by omega
      have hc := hcell j (by omega)
      rw [Addr.add_lit] at hc
      rw [hc]
      have hmem : zs.getD j 0 ∈ zs := by
        rw [List.getD_eq_getElem?_getD, List.getElem?_eq_getElem (by omega : j < zs.length)]
        exact List.getElem_mem _
      have hw := hwz _ hmem
      simp [Lit.wf, IntKind.min, IntKind.max, IntKind.signed, IntKind.bits] at hw
      have hj2 : j < zs.length := by omega
      simp only [List.getElem_map, List.getElem_take]
      have hg : zs.getD j 0 = zs[j] := by rw [List.getD_eq_getElem?_getD, List.getElem?_eq_getElem hj2]; rfl
      rw [List.getElem?_eq_getElem hj2] at hw
      simp only [Option.getD_some] at hw
      rw [hg]
      have : (zs[j].toNat.toUInt8).toNat = zs[j].toNat := by
        simp [UInt8.toNat_ofNat']; omega
      rw [this]
      congr 2
      omega

end Go.Proofs.YbulkbguFmt
