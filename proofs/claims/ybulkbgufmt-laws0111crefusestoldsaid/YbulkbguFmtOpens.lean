/-
  DERIVED. ARGUMENTS OPENED: a slice of strings, of uint64, of bytes (as an append's source).
-/
import Derived.Test.YbulkbguFmtBaseC
import Derived.Test.YbulkbguFmtTrip
import Derived.SliceStrings
namespace Go.Proofs.YbulkbguFmt
open Go.ChangeShapes Go.WideShapes Go.ChangeAt Go.RowKit Go.Kit
open Go.Extern.Stop Go.Stop Go.Extern

theorem Ybaf.cells22 : Ybaf.prog.cellsOf 22 = 1 := by kernel_rfl

theorem strs_of_trod {H : Type} {enc : TypeId × Value → H} {W : World} {a : Option Addr} {len cap : Nat} {d : DataW H} {p : List MemPlace}
    (h : DataW.Trod enc Ybaf.prog W 0 (fun _ => true) true 33 (.slice a len cap) d p) : ∃ bi oi Sx, InStrs W a len bi oi Sx ∧ len ≤ 9223372036854775807 := by
  obtain ⟨fuel, hf⟩ := h
  rcases open_strings Ybaf.underlying33 Ybaf.underlying9 Ybaf.cells9 hf with ⟨hcs, _⟩ | ⟨x, l, c, ss, hcs, _, hl, hm, hz, _, hcell, _⟩
  · simp [Value.cells] at hcs
    obtain ⟨rfl, rfl, rfl⟩ := hcs
    exact ⟨0, 0, fun _ => ⟨#[]⟩, ⟨fun h => absurd h (by omega), fun j hj => absurd hj (by omega)⟩, by omega⟩
  · simp [Value.cells] at hcs
    obtain ⟨rfl, rfl, rfl⟩ := hcs
    unfold maxLen at hm
    have hzl : ss.length = cap := by simpa using hz
    by_cases h0 : len = 0
    · exact ⟨0, 0, fun _ => ⟨#[]⟩, ⟨fun h => absurd h (by omega), fun j hj => absurd hj (by omega)⟩, by omega⟩
    · obtain ⟨b, off, spot⟩ := x
      have hc0 := hcell 0 (by omega)
      have hspot : spot = none := by simpa [Addr.add] using World.cell?_spot hc0
      subst hspot
      refine ⟨b, off, fun j => ss.getD j ByteArray.empty, ⟨fun _ => rfl, fun j hj => ?_⟩, by omega⟩
      have hc := hcell j (by omega)
      rw [Addr.add_lit] at hc
      exact hc

theorem cnts_of_trod {H : Type} {enc : TypeId × Value → H} {W : World} {a : Option Addr} {len cap : Nat} {d : DataW H} {p : List MemPlace}
    (h : DataW.Trod enc Ybaf.prog W 0 (fun _ => true) true 34 (.slice a len cap) d p) : ∃ bi oi Cx, InCnts W a len bi oi Cx ∧ len ≤ 9223372036854775807 := by
  obtain ⟨fuel, hf⟩ := h
  rcases open_ints Ybaf.underlying34 Ybaf.underlying22 Ybaf.cells22 hf with ⟨hcs, _⟩ | ⟨x, l, c, zs, hcs, _, hl, hm, hz, _, hcell, hwz⟩
  · simp [Value.cells] at hcs
    obtain ⟨rfl, rfl, rfl⟩ := hcs
    exact ⟨0, 0, fun _ => 0, ⟨fun h => absurd h (by omega), fun j hj => absurd hj (by omega), fun j hj => absurd hj (by omega)⟩, by omega⟩
  · simp [Value.cells] at hcs
    obtain ⟨rfl, rfl, rfl⟩ := hcs
    unfold maxLen at hm
    have hzl : zs.length = cap := by simpa using hz
    by_cases h0 : len = 0
    · exact ⟨0, 0, fun _ => 0, ⟨fun h => absurd h (by omega), fun j hj => absurd hj (by omega), fun j hj => absurd hj (by omega)⟩, by omega⟩
    · obtain ⟨b, off, spot⟩ := x
      have hc0 := hcell 0 (by omega)
      have hspot : spot = none := by simpa [Addr.add] using World.cell?_spot hc0
      subst hspot
      have hr : ∀ j, j < len → 0 ≤ zs.getD j 0 ∧ zs.getD j 0 < 18446744073709551616 := by
        intro j hj
        have hmem : zs.getD j 0 ∈ zs := by
          rw [List.getD_eq_getElem?_getD, List.getElem?_eq_getElem (by omega : j < zs.length)]
          exact List.getElem_mem _
        have hw := hwz _ hmem
        simp [Lit.wf, IntKind.min, IntKind.max, IntKind.signed, IntKind.bits] at hw
        have e : zs.getD j 0 = zs[j]?.getD 0 := by simp [List.getD_eq_getElem?_getD]
        rw [e]
        omega
      refine ⟨b, off, fun j => (zs.getD j 0).toNat, ⟨fun _ => rfl, fun j hj => ?_, fun j hj => by have := hr j hj; show (zs.getD j 0).toNat < _; omega⟩, by omega⟩
      have hc := hcell j (by omega)
      rw [Addr.add_lit] at hc
      rw [hc]
      have := hr j hj
      show some (Value.int .u64 _) = some (Value.int .u64 (((zs.getD j 0).toNat : Nat) : Int))
      congr 2
      omega

theorem src_of_trod {H : Type} {enc : TypeId × Value → H} {W : World} {a : Option Addr} {len cap : Nat} {d : DataW H} {p : List MemPlace}
    (h : DataW.Trod enc Ybaf.prog W 0 (fun _ => true) true 35 (.slice a len cap) d p) : ∃ l : List UInt8, l.length = len ∧ SrcBytes W (.slice a len cap) l ∧ len ≤ 9223372036854775807 := by
  obtain ⟨l, rfl, hB, hm⟩ := bytes_of_trod h
  refine ⟨l, rfl, ?_, hm⟩
  obtain ⟨fuel, hf⟩ := h
  rcases open_ints Ybaf.underlying35 Ybaf.underlying5 Ybaf.cells5 hf with ⟨hcs, _⟩ | ⟨x, l', c, zs, hcs, _⟩
  · simp [Value.cells] at hcs
    obtain ⟨rfl, h0, rfl⟩ := hcs
    have hl : l = [] := List.eq_nil_of_length_eq_zero (by simpa using h0)
    subst hl
    exact Or.inl ⟨rfl, rfl⟩
  · simp [Value.cells] at hcs
    obtain ⟨rfl, _, _⟩ := hcs
    refine Or.inr ⟨x, cap, rfl, fun j hj => ?_⟩
    rcases hB with h0 | ⟨b, o, hx, hc, _⟩
    · rw [h0] at hj; exact absurd hj (by simp)
    · cases hx
      rw [Addr.add_lit]
      exact hc j hj

end Go.Proofs.YbulkbguFmt
