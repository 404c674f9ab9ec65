/-
  DERIVED. PLAIN MATHEMATICS: what is written as a shortest uvarint is read back by 'rd', and what 'rd' accepts is a shortest uvarint. No Go in sight.
-/
import Derived.Test.YbulkbguFmtPlain
namespace Go.Proofs.YbulkbguFmt

theorem byte_of (n : Nat) (h : n < 256) : n.toUInt8.toNat = n := by
  simp [UInt8.toNat_ofNat']; omega

theorem pow_step (i : Nat) : 2 ^ (7 * (i + 1)) = 128 * 2 ^ (7 * i) := by
  rw [show 7 * (i + 1) = 7 * i + 7 by omega, Nat.pow_add]; omega

theorem from_uvarint : ∀ (fuel x : Nat), x < fuel → ∀ (i acc : Nat) (r : List UInt8), i ≤ 9 → x * 2 ^ (7 * i) < 18446744073709551616 →
    Lib.uvarintFrom i acc (Lib.uvarint x ++ r) = (acc + x * 2 ^ (7 * i), ((i + (Lib.uvarint x).length : Nat) : Int))
  | 0, x, h, _, _, _, _, _ => by omega
  | fuel + 1, x, h, i, acc, r, hi, hf => by
    by_cases hx : x < 128
    · rw [Lib.uvarint_small hx]
      have hb := byte_of x (by omega)
      simp only [List.cons_append, List.nil_append, List.length_singleton]
      unfold Lib.uvarintFrom
      rw [if_neg (by omega), hb, if_pos hx, if_neg]
      · simp
      · rintro ⟨rfl, h1⟩
        have e : (2 : Nat) ^ (7 * 9) = 9223372036854775808 := by decide
        rw [e] at hf
        omega
    · have hi8 : i ≤ 8 := by
        by_cases h9 : i = 9
        · subst h9
          have e : (2 : Nat) ^ (7 * 9) = 9223372036854775808 := by decide
          rw [e] at hf
          omega
        · omega
      rw [Lib.uvarint_big (by omega)]
      have hb := byte_of (x % 128 + 128) (by omega)
      have hps := pow_step i
      have hdm : x = 128 * (x / 128) + x % 128 := (Nat.div_add_mod x 128).symm
      have hf2 : x / 128 * 2 ^ (7 * (i + 1)) < 18446744073709551616 := by
        rw [hps, ← Nat.mul_assoc]
        have : x / 128 * 128 * 2 ^ (7 * i) ≤ x * 2 ^ (7 * i) := Nat.mul_le_mul_right _ (by omega)
        omega
      have ih := from_uvarint fuel (x / 128) (by omega) (i + 1) (acc + x % 128 * 2 ^ (7 * i)) r (by omega) hf2
      simp only [List.cons_append, List.length_cons]
      conv => lhs; unfold Lib.uvarintFrom
      rw [if_neg (by omega), hb, if_neg (by omega)]
      rw [show (x % 128 + 128) % 128 = x % 128 by omega, ih]
      congr 1
      · rw [hps, ← Nat.mul_assoc, Nat.add_assoc, ← Nat.add_mul]
        congr 2
        omega
      · congr 1; omega

theorem uvarint_pos (x : Nat) : 0 < (Lib.uvarint x).length := by
  by_cases hx : x < 128
  · rw [Lib.uvarint_small hx]; simp
  · rw [Lib.uvarint_big (by omega)]; simp

theorem uvarint_last : ∀ (fuel x : Nat), x < fuel → 1 ≤ x → (Lib.uvarint x).getD ((Lib.uvarint x).length - 1) 0 ≠ 0
  | 0, _, h, _ => by omega
  | fuel + 1, x, h, h1 => by
    by_cases hx : x < 128
    · rw [Lib.uvarint_small hx]
      intro hc
      have := congrArg UInt8.toNat hc
      simp at this
      omega
    · rw [Lib.uvarint_big (by omega)]
      have ih := uvarint_last fuel (x / 128) (by omega) (by omega)
      have hp := uvarint_pos (x / 128)
      obtain ⟨m, hm⟩ : ∃ m, (Lib.uvarint (x / 128)).length = m + 1 := ⟨(Lib.uvarint (x / 128)).length - 1, by omega⟩
      rw [hm] at ih
      simp only [List.length_cons, hm, Nat.add_sub_cancel, List.getD_cons_succ] at ih ⊢
      exact ih

theorem dec_uvarint (x : Nat) (hx : x < 18446744073709551616) (r : List UInt8) : Lib.uvarintDec (Lib.uvarint x ++ r) = (x, ((Lib.uvarint x).length : Int)) := by
  have := from_uvarint (x + 1) x (by omega) 0 0 r (by omega) (by simpa using hx)
  simpa [Lib.uvarintDec] using this

/-- What is written is read back. -/
theorem rd_uvarint (x : Nat) (hx : x < 18446744073709551616) (r : List UInt8) : rd (Lib.uvarint x ++ r) = some (x, (Lib.uvarint x).length) := by
  have hd := dec_uvarint x hx r
  have hp := uvarint_pos x
  unfold rd
  rw [hd]
  simp only [Int.toNat_natCast]
  rw [if_pos]
  refine ⟨by omega, ?_⟩
  rintro ⟨h1, h2⟩
  have hx1 : 1 ≤ x := by
    by_cases h0 : x = 0
    · subst h0
      rw [Lib.uvarint_small (by omega)] at h1
      simp at h1
    · omega
  refine uvarint_last (x + 1) x (by omega) hx1 ?_
  rw [List.getD_eq_getElem?_getD, List.getElem?_append_left (by omega)] at h2
  rw [List.getD_eq_getElem?_getD]
  exact h2

theorem from_inv : ∀ (l : List UInt8) (i acc v : Nat) (m : Int), i ≤ 10 → Lib.uvarintFrom i acc l = (v, m) → 0 < m →
    ∃ y k : Nat, m = ((i + k : Nat) : Int) ∧ 1 ≤ k ∧ k ≤ l.length ∧ v = acc + y * 2 ^ (7 * i) ∧ (k = 1 → l.take 1 = Lib.uvarint y) ∧ (l.getD (k - 1) 0 ≠ 0 → l.take k = Lib.uvarint y ∧ 1 ≤ y)
  | [], i, acc, v, m, _, h, hm => by
    simp [Lib.uvarintFrom] at h
    omega
  | b :: r, i, acc, v, m, hi, h, hm => by
    unfold Lib.uvarintFrom at h
    split at h
    · simp at h; omega
    · split at h
      · rename_i hb
        split at h
        · simp at h; omega
        · simp only [Prod.mk.injEq] at h
          obtain ⟨rfl, rfl⟩ := h
          have hu : Lib.uvarint b.toNat = [b] := by
            rw [Lib.uvarint_small hb]
            congr 1
            exact UInt8.toNat_inj.1 (byte_of _ b.toNat_lt)
          refine ⟨b.toNat, 1, by simp, by omega, by simp, rfl, fun _ => by rw [hu]; rfl, fun h0 => ⟨by rw [hu]; rfl, ?_⟩⟩
          simp at h0
          by_cases hz : b.toNat = 0
          · exact absurd (UInt8.toNat_inj.1 (by simpa using hz)) h0
          · omega
      · rename_i hi10 hb
        obtain ⟨y', k', e1, e2, e3, e4, e5, e6⟩ := from_inv r (i + 1) _ v m (by omega) h hm
        have hb256 := b.toNat_lt
        refine ⟨b.toNat % 128 + 128 * y', k' + 1, by rw [e1]; congr 1; omega, by omega, by simp; omega, ?_, fun hk => by omega, fun h0 => ?_⟩
        · rw [e4, pow_step, Nat.add_mul, Nat.add_assoc, ← Nat.mul_assoc, Nat.mul_comm y' 128]
        · have h0' : r.getD (k' - 1) 0 ≠ 0 := by
            obtain ⟨k2, rfl⟩ : ∃ k2, k' = k2 + 1 := ⟨k' - 1, by omega⟩
            simpa [List.getD_cons_succ] using h0
          obtain ⟨t1, t2⟩ := e6 h0'
          refine ⟨?_, by omega⟩
          rw [List.take_succ_cons, t1, Lib.uvarint_big (x := b.toNat % 128 + 128 * y') (by omega)]
          have q1 : ((b.toNat % 128 + 128 * y') % 128 + 128).toUInt8 = b := by
            apply UInt8.toNat_inj.1
            rw [byte_of _ (by omega)]
            omega
          have q2 : (b.toNat % 128 + 128 * y') / 128 = y' := by omega
          rw [q1, q2]

/-- What is accepted is a shortest uvarint. -/
theorem rd_inv {l : List UInt8} {v k : Nat} (h : rd l = some (v, k)) : l.take k = Lib.uvarint v ∧ k = (Lib.uvarint v).length ∧ l = Lib.uvarint v ++ l.drop k := by
  obtain ⟨h2, h1, hk1, _, hkl, _, hlast⟩ := rd_some h
  obtain ⟨y, k', e1, e2, e3, e4, e5, e6⟩ := from_inv l 0 0 v (k : Int) (by omega) (by
    have : Lib.uvarintDec l = (v, (k : Int)) := by rw [← h1, ← h2]
    exact this) (by omega)
  have hk : k' = k := by omega
  subst hk
  have hy : v = y := by simpa using e4
  subst hy
  have ht : l.take k' = Lib.uvarint v := by
    by_cases hk : k' = 1
    · subst hk; exact e5 rfl
    · exact (e6 fun hc => hlast ⟨by omega, hc⟩).1
  refine ⟨ht, ?_, ?_⟩
  · rw [← ht, List.length_take]; omega
  · rw [← ht]; exact (List.take_append_drop _ _).symm

theorem unzig_zig (v : Int) : Lib.unzigzag (Lib.zigzag v) = v := by
  unfold Lib.zigzag
  split
  · unfold Lib.unzigzag
    rw [if_pos (by omega)]; omega
  · unfold Lib.unzigzag
    rw [if_neg (by omega)]; omega

end Go.Proofs.YbulkbguFmt
