/-
  DERIVED. PLAIN MATHEMATICS: one round of the law's own decoder against 'Lib.uvarintFrom'; the bit operations on uint64. No program in sight.
-/
import Derived.Test.YbulkbguDoorPlain
import Derived.Lib.VarintBits
import Derived.Laws.BitsAllLaws
import Derived.Laws.Closers25b
namespace Go.Proofs.YbulkbguDoor

theorem val_int {k : IntKind} {a b : Int} (h : a = b) : Value.int k a = Value.int k b := by rw [h]

theorem pow_le (k : Nat) (hk : k ≤ 9) : 2 ^ (7 * k) ≤ 9223372036854775808 := by
  calc 2 ^ (7 * k) ≤ 2 ^ 63 := Nat.pow_le_pow_right (by omega) (by omega)
    _ = 9223372036854775808 := by decide

theorem or_add (acc x s : Nat) (h64 : acc < 18446744073709551616) (ha : acc < 2 ^ s) (hx : x * 2 ^ s < 18446744073709551616) : bits .or .u64 (acc : Int) ((x * 2 ^ s : Nat) : Int) = ((acc + x * 2 ^ s : Nat) : Int) := by
  rw [u64_or_nat _ _ h64 hx]
  have := Nat.two_pow_add_eq_or_of_lt ha x
  rw [Nat.mul_comm (2 ^ s) x] at this
  rw [Nat.or_comm, ← this, Nat.add_comm]

theorem cast_mul_pow (x s : Nat) : (x : Int) * 2 ^ s = ((x * 2 ^ s : Nat) : Int) := by simp

/-- A byte below 128 laid in at place k, in the walk's spelling. -/
theorem or_ok (acc bn k : Nat) (hk : k ≤ 9) (ha : acc < 2 ^ (7 * k)) (hf : bn * 2 ^ (7 * k) < 18446744073709551616) :
    bits BinOp.or IntKind.u64 (acc : Int) (IntKind.u64.wrap ((bn : Int) * 2 ^ (7 * k))) = ((acc + bn * 2 ^ (7 * k) : Nat) : Int) := by
  have hp := pow_le k hk
  rw [cast_mul_pow, u64_wrap_id _ (by omega) (by omega)]
  exact or_add acc bn (7 * k) (by omega) ha hf

theorem or_ok9 (acc bn : Nat) (ha : acc < 2 ^ (7 * 9)) (hb : bn ≤ 1) :
    bits BinOp.or IntKind.u64 (acc : Int) ((bn : Int) * 9223372036854775808) = ((acc + bn * 2 ^ (7 * 9) : Nat) : Int) := by
  have h := or_ok acc bn 9 (by omega) ha (by have : (2 : Nat) ^ (7 * 9) = 9223372036854775808 := by decide
                                             rw [this]; omega)
  rw [show ((bn : Int) * 2 ^ (7 * 9)) = (bn : Int) * 9223372036854775808 by rw [show ((2 : Int) ^ (7 * 9)) = 9223372036854775808 from by decide]] at h
  rw [u64_wrap_id _ (by omega) (by omega)] at h
  exact h

/-- A byte with the bit 128 laid in at place k ≤ 8, in the walk's spelling. -/
theorem or_next (acc bn k : Nat) (hk : k ≤ 8) (hb : bn < 256) (ha : acc < 2 ^ (7 * k)) :
    bits BinOp.or IntKind.u64 (acc : Int) (IntKind.u64.wrap (IntKind.u64.wrap (bits BinOp.and IntKind.u8 (bn : Int) 127) * 2 ^ (7 * k))) = ((acc + bn % 128 * 2 ^ (7 * k) : Nat) : Int) := by
  have e : IntKind.u64.wrap (bits BinOp.and IntKind.u8 (bn : Int) 127) = ((bn % 128 : Nat) : Int) := by
    rw [u8_and127 _ (by omega) (by omega), u64_wrap_id _ (by omega) (by omega)]
    omega
  rw [e]
  refine or_ok acc (bn % 128) k (by omega) ha ?_
  have h1 : 2 ^ (7 * k) ≤ 2 ^ 56 := Nat.pow_le_pow_right (by omega) (by omega)
  have h2 : (2 : Nat) ^ 56 = 72057594037927936 := by decide
  have h3 : bn % 128 * 2 ^ (7 * k) ≤ 127 * 2 ^ (7 * k) := Nat.mul_le_mul_right _ (by omega)
  omega

theorem next_lt (acc bn k : Nat) (ha : acc < 2 ^ (7 * k)) : acc + bn % 128 * 2 ^ (7 * k) < 2 ^ (7 * (k + 1)) := by
  have e : 2 ^ (7 * (k + 1)) = 128 * 2 ^ (7 * k) := by rw [show 7 * (k + 1) = 7 * k + 7 by omega, Nat.pow_add]; omega
  have h3 : bn % 128 * 2 ^ (7 * k) ≤ 127 * 2 ^ (7 * k) := Nat.mul_le_mul_right _ (by omega)
  omega

theorem fits8 (bn k : Nat) (hk : k ≤ 8) (hb : bn < 128) : bn * 2 ^ (7 * k) < 18446744073709551616 := by
  have h1 : 2 ^ (7 * k) ≤ 2 ^ 56 := Nat.pow_le_pow_right (by omega) (by omega)
  have h2 : (2 : Nat) ^ 56 = 72057594037927936 := by decide
  have h3 : bn * 2 ^ (7 * k) ≤ 127 * 2 ^ (7 * k) := Nat.mul_le_mul_right _ (by omega)
  omega

theorem rd_of_dec {L : List UInt8} {v : Nat} {m : Int} (h : Lib.uvarintDec L = (v, m)) : rd L = if 1 ≤ m ∧ ¬ (1 < m ∧ L.getD (m.toNat - 1) 0 = 0) then some (v, m.toNat) else none := by
  unfold rd; rw [h]

theorem m_end {L : List UInt8} {k acc : Nat} (hdec : Lib.uvarintDec L = Lib.uvarintFrom k acc (L.drop k)) (h : L.length ≤ k) : rd L = none := by
  rw [List.drop_eq_nil_of_le h] at hdec
  rw [rd_of_dec (v := 0) (m := 0) hdec]; simp

theorem m_ten {L : List UInt8} {k acc : Nat} (hdec : Lib.uvarintDec L = Lib.uvarintFrom k acc (L.drop k)) (h : k = 10) : rd L = none := by
  subst h
  cases hr : L.drop 10 with
  | nil => rw [hr] at hdec; rw [rd_of_dec (v := 0) (m := 0) hdec]; simp
  | cons b r => rw [hr] at hdec; rw [rd_of_dec (v := 0) (m := -11) (by rw [hdec]; simp [Lib.uvarintFrom])]; simp

theorem m_cons {L : List UInt8} {k acc : Nat} (hdec : Lib.uvarintDec L = Lib.uvarintFrom k acc (L.drop k)) (h : k < L.length) : Lib.uvarintDec L = Lib.uvarintFrom k acc (L[k] :: L.drop (k + 1)) := by
  rw [hdec, List.drop_eq_getElem_cons h]

theorem m_over {L : List UInt8} {k acc : Nat} (hdec : Lib.uvarintDec L = Lib.uvarintFrom k acc (L.drop k)) (h : k < L.length) (h9 : k = 9) (hb : L[k].toNat < 128) (hb1 : 1 < L[k].toNat) : rd L = none := by
  have := m_cons hdec h
  subst h9
  rw [rd_of_dec (v := 0) (m := -10) (by rw [this]; simp [Lib.uvarintFrom, hb, hb1])]; simp

theorem m_zero {L : List UInt8} {k acc : Nat} (hdec : Lib.uvarintDec L = Lib.uvarintFrom k acc (L.drop k)) (h : k < L.length) (hk : k ≤ 9) (h0 : 0 < k) (hb : L[k].toNat = 0) : rd L = none := by
  have := m_cons hdec h
  have hz : L[k] = 0 := UInt8.toNat_inj.1 (by simpa using hb)
  rw [rd_of_dec (v := acc) (m := (k : Int) + 1) (by rw [this]; simp [Lib.uvarintFrom, hb]; omega)]
  rw [if_neg]
  rintro ⟨_, h2⟩
  refine h2 ⟨by omega, ?_⟩
  rw [show ((k : Int) + 1).toNat - 1 = k by omega, List.getD_eq_getElem?_getD, List.getElem?_eq_getElem h]
  simpa using hz

theorem m_ok {L : List UInt8} {k acc : Nat} (hdec : Lib.uvarintDec L = Lib.uvarintFrom k acc (L.drop k)) (h : k < L.length) (hk : k ≤ 9) (hb : L[k].toNat < 128) (h9 : ¬ (k = 9 ∧ 1 < L[k].toNat)) (h0 : ¬ (0 < k ∧ L[k].toNat = 0)) : rd L = some (acc + L[k].toNat * 2 ^ (7 * k), k + 1) := by
  have := m_cons hdec h
  rw [rd_of_dec (v := acc + L[k].toNat * 2 ^ (7 * k)) (m := (k : Int) + 1) (by rw [this]; unfold Lib.uvarintFrom; rw [if_neg (by omega), if_pos hb, if_neg h9])]
  rw [if_pos]
  · congr 2
  · refine ⟨by omega, ?_⟩
    rintro ⟨h1, h2⟩
    rw [show ((k : Int) + 1).toNat - 1 = k by omega, List.getD_eq_getElem?_getD, List.getElem?_eq_getElem h] at h2
    exact h0 ⟨by omega, by simpa using congrArg UInt8.toNat h2⟩

theorem m_next {L : List UInt8} {k acc : Nat} (hdec : Lib.uvarintDec L = Lib.uvarintFrom k acc (L.drop k)) (h : k < L.length) (hk : k ≤ 9) (hb : ¬ L[k].toNat < 128) : Lib.uvarintDec L = Lib.uvarintFrom (k + 1) (acc + L[k].toNat % 128 * 2 ^ (7 * k)) (L.drop (k + 1)) := by
  have := m_cons hdec h
  rw [this]
  conv => lhs; unfold Lib.uvarintFrom
  rw [if_neg (by omega), if_neg hb]

end Go.Proofs.YbulkbguDoor
