/-
  DERIVED. PLAIN MATHEMATICS: what (*wire.Reader).Uvarint reads off a list of bytes ('rd'), out of the shelf's 'Lib.uvarintDec'. No Go in sight.
-/
import Derived.Lib.VarintDec
import Derived.Lib.Varint
namespace Go.Proofs.YbulkbguFmt

/-- The value and the number of bytes that Reader.Uvarint takes off l; none where it refuses. -/
def rd (l : List UInt8) : Option (Nat × Nat) :=
  if 1 ≤ (Lib.uvarintDec l).2 ∧ ¬ (1 < (Lib.uvarintDec l).2 ∧ l.getD ((Lib.uvarintDec l).2.toNat - 1) 0 = 0) then some ((Lib.uvarintDec l).1, (Lib.uvarintDec l).2.toNat) else none

theorem from_le : ∀ (l : List UInt8) (i acc : Nat), (Lib.uvarintFrom i acc l).2 ≤ (i : Int) + l.length
  | [], i, acc => by simp [Lib.uvarintFrom]
  | b :: r, i, acc => by
    have ih := from_le r (i + 1) (acc + b.toNat % 128 * 2 ^ (7 * i))
    unfold Lib.uvarintFrom
    split
    · simp; omega
    · split
      · split
        · simp; omega
        · simp; omega
      · simp at ih ⊢; omega

theorem from_ge : ∀ (l : List UInt8) (i acc : Nat), i ≤ 10 → -11 ≤ (Lib.uvarintFrom i acc l).2 ∧ (Lib.uvarintFrom i acc l).2 ≤ 10
  | [], i, acc, h => by simp [Lib.uvarintFrom]
  | b :: r, i, acc, h => by
    unfold Lib.uvarintFrom
    split
    · simp; omega
    · have ih := from_ge r (i + 1) (acc + b.toNat % 128 * 2 ^ (7 * i)) (by omega)
      split
      · split
        · simp; omega
        · simp; omega
      · exact ih

theorem dec_le (l : List UInt8) : (Lib.uvarintDec l).2 ≤ l.length := by
  have := from_le l 0 0
  simpa [Lib.uvarintDec] using this
theorem dec_ge (l : List UInt8) : -11 ≤ (Lib.uvarintDec l).2 ∧ (Lib.uvarintDec l).2 ≤ 10 := from_ge l 0 0 (by omega)

theorem rd_some {l : List UInt8} {v k : Nat} (h : rd l = some (v, k)) : (Lib.uvarintDec l).2 = (k : Int) ∧ (Lib.uvarintDec l).1 = v ∧ 1 ≤ k ∧ k ≤ 10 ∧ k ≤ l.length ∧ v < 18446744073709551616 ∧ ¬ (1 < k ∧ l.getD (k - 1) 0 = 0) := by
  unfold rd at h
  have h1 := dec_le l
  have h2 := dec_ge l
  have h3 := Lib.uvarintDec_lt l
  split at h
  · rename_i hc
    simp only [Option.some.injEq, Prod.mk.injEq] at h
    obtain ⟨rfl, rfl⟩ := h
    obtain ⟨c1, c2⟩ := hc
    refine ⟨by omega, rfl, by omega, by omega, by omega, h3, fun hx => c2 ⟨by omega, hx.2⟩⟩
  · cases h

theorem rd_none {l : List UInt8} (h : rd l = none) : (Lib.uvarintDec l).2 ≤ 0 ∨ (1 < (Lib.uvarintDec l).2 ∧ l.getD ((Lib.uvarintDec l).2.toNat - 1) 0 = 0) := by
  unfold rd at h
  split at h
  · cases h
  · rename_i hc
    by_cases h0 : (Lib.uvarintDec l).2 ≤ 0
    · exact Or.inl h0
    · right
      exact Classical.byContradiction fun hx => hc ⟨by omega, hx⟩

end Go.Proofs.YbulkbguFmt
