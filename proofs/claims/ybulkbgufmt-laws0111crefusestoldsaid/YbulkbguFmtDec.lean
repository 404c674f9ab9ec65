/-
  DERIVED. PLAIN MATHEMATICS: the binary form of a clock as lists of bytes: what '(*decoder).clock' reads ('dec'), what the law's own writer writes ('enc'), and that the two fit. No Go in sight.
-/
import Derived.Test.YbulkbguFmtRound
namespace Go.Proofs.YbulkbguFmt

abbrev Ent := List UInt8 × Nat

def above : Option (List UInt8) → List UInt8 → Bool
  | none, _ => true
  | some q, x => decide (q < x)

def decE (prev : Option (List UInt8)) (L : List UInt8) : Option (Ent × Nat) :=
  match rd L with
  | none => none
  | some (n, k) =>
    if 1 ≤ n ∧ n ≤ 255 ∧ n ≤ L.length - k then
      if above prev ((L.drop k).take n) = true then
        match rd (L.drop (k + n)) with
        | none => none
        | some (c, k2) => if c = 0 then none else some (((L.drop k).take n, c), k + n + k2)
      else none
    else none

def decN : Nat → Option (List UInt8) → List UInt8 → Option (List Ent × Nat)
  | 0, _, _ => some ([], 0)
  | m + 1, prev, L => match decE prev L with
    | none => none
    | some (e, k) => match decN m (some e.1) (L.drop k) with
      | none => none
      | some (es, k') => some (e :: es, k + k')

def dec : List UInt8 → Option (List Ent × Nat)
  | [] => none
  | b :: L => if b.toNat = 1 then
      match rd L with
      | none => none
      | some (n, k) => if n ≤ (L.length - k) / 3 then
          match decN n none (L.drop k) with
          | none => none
          | some (es, k') => some (es, 1 + k + k')
        else none
    else none

def enc1 (e : Ent) : List UInt8 := Lib.uvarint e.1.length ++ (e.1 ++ Lib.uvarint e.2)
def encE : List Ent → List UInt8
  | [] => []
  | e :: es => enc1 e ++ encE es
def enc (es : List Ent) : List UInt8 := 1 :: (Lib.uvarint es.length ++ encE es)

/-- An entry that may stand in a clock. -/
def EntOk (e : Ent) : Prop := 1 ≤ e.1.length ∧ e.1.length ≤ 255 ∧ e.2 ≠ 0 ∧ e.2 < 18446744073709551616

def Valid : Option (List UInt8) → List Ent → Prop
  | _, [] => True
  | prev, e :: es => above prev e.1 = true ∧ EntOk e ∧ Valid (some e.1) es

theorem decE_sound {prev : Option (List UInt8)} {L : List UInt8} {e : Ent} {k : Nat} (h : decE prev L = some (e, k)) :
    above prev e.1 = true ∧ EntOk e ∧ L = enc1 e ++ L.drop k ∧ k = (enc1 e).length := by
  unfold decE at h
  split at h
  · cases h
  · rename_i n k1 h1
    split at h
    · rename_i hc
      split at h
      · rename_i ha
        split at h
        · cases h
        · rename_i c k2 h2
          split at h
          · cases h
          · rename_i hc0
            simp only [Option.some.injEq, Prod.mk.injEq] at h
            obtain ⟨rfl, rfl⟩ := h
            obtain ⟨i1, i2, i3⟩ := rd_inv h1
            obtain ⟨j1, j2, j3⟩ := rd_inv h2
            have hc64 := (rd_some h2).2.2.2.2.2.1
            have hlen : ((L.drop k1).take n).length = n := by
              rw [List.length_take, List.length_drop]; omega
            refine ⟨ha, ⟨by rw [hlen]; exact hc.1, by rw [hlen]; exact hc.2.1, hc0, hc64⟩, ?_, ?_⟩
            · have e2 : L.drop k1 = (L.drop k1).take n ++ L.drop (k1 + n) := by
                conv => lhs; rw [← List.take_append_drop n (L.drop k1)]
                rw [List.drop_drop]
              have e3 : L.drop (k1 + n) = Lib.uvarint c ++ L.drop (k1 + n + k2) := by
                conv => lhs; rw [j3]
                rw [List.drop_drop]
              unfold enc1
              simp only [hlen]
              rw [← i2] at *
              conv => lhs; rw [i3, e2, e3]
              simp
            · unfold enc1
              simp only [List.length_append, hlen, ← i2, ← j2]
              omega
      · cases h
    · cases h

theorem decE_enc {prev : Option (List UInt8)} {e : Ent} (T : List UInt8) (he : 1 ≤ e.1.length ∧ e.1.length ≤ 255 ∧ e.2 < 18446744073709551616) :
    decE prev (enc1 e ++ T) = if above prev e.1 = true ∧ e.2 ≠ 0 then some (e, (enc1 e).length) else none := by
  obtain ⟨h1, h2, h3⟩ := he
  have e0 : enc1 e ++ T = Lib.uvarint e.1.length ++ (e.1 ++ (Lib.uvarint e.2 ++ T)) := by simp [enc1]
  have hr1 : rd (enc1 e ++ T) = some (e.1.length, (Lib.uvarint e.1.length).length) := by rw [e0]; exact rd_uvarint _ (by omega) _
  have ed : (enc1 e ++ T).drop (Lib.uvarint e.1.length).length = e.1 ++ (Lib.uvarint e.2 ++ T) := by rw [e0, List.drop_left]
  have et : ((enc1 e ++ T).drop (Lib.uvarint e.1.length).length).take e.1.length = e.1 := by rw [ed, List.take_left]
  have ed2 : (enc1 e ++ T).drop ((Lib.uvarint e.1.length).length + e.1.length) = Lib.uvarint e.2 ++ T := by
    rw [← List.drop_drop, ed, List.drop_left]
  have hr2 : rd ((enc1 e ++ T).drop ((Lib.uvarint e.1.length).length + e.1.length)) = some (e.2, (Lib.uvarint e.2).length) := by rw [ed2]; exact rd_uvarint _ h3 _
  have hl : e.1.length ≤ (enc1 e ++ T).length - (Lib.uvarint e.1.length).length := by rw [e0]; simp
  have hk : (Lib.uvarint e.1.length).length + e.1.length + (Lib.uvarint e.2).length = (enc1 e).length := by simp [enc1]; omega
  unfold decE
  simp only [hr1, hr2, et, if_pos (⟨h1, h2, hl⟩ : 1 ≤ e.1.length ∧ e.1.length ≤ 255 ∧ e.1.length ≤ (enc1 e ++ T).length - (Lib.uvarint e.1.length).length), hk]
  by_cases ha : above prev e.1 = true
  · by_cases hc : e.2 = 0
    · simp [ha, hc]
    · simp [ha, hc]
  · simp [ha]

theorem decN_sound : ∀ (m : Nat) (prev : Option (List UInt8)) (L : List UInt8) (es : List Ent) (k : Nat), decN m prev L = some (es, k) →
    es.length = m ∧ Valid prev es ∧ L = encE es ++ L.drop k ∧ k = (encE es).length
  | 0, prev, L, es, k, h => by
    simp only [decN, Option.some.injEq, Prod.mk.injEq] at h
    obtain ⟨rfl, rfl⟩ := h
    exact ⟨rfl, trivial, by simp [encE], rfl⟩
  | m + 1, prev, L, es, k, h => by
    simp only [decN] at h
    split at h
    · cases h
    · rename_i e k1 h1
      split at h
      · cases h
      · rename_i es' k' h2
        simp only [Option.some.injEq, Prod.mk.injEq] at h
        obtain ⟨rfl, rfl⟩ := h
        obtain ⟨a1, a2, a3, a4⟩ := decE_sound h1
        obtain ⟨b1, b2, b3, b4⟩ := decN_sound m _ _ _ _ h2
        refine ⟨by simp [b1], ⟨a1, a2, b2⟩, ?_, by simp [encE, a4, b4]⟩
        conv => lhs; rw [a3, b3]
        rw [List.drop_drop]
        simp [encE]

/-- The last node id ahead of what follows. -/
def lastOf : Option (List UInt8) → List Ent → Option (List UInt8)
  | prev, [] => prev
  | _, e :: es => lastOf (some e.1) es

theorem decN_enc : ∀ (es : List Ent) (prev : Option (List UInt8)) (T : List UInt8) (m : Nat), Valid prev es →
    decN (es.length + m) prev (encE es ++ T) = (decN m (lastOf prev es) T).map fun x => (es ++ x.1, (encE es).length + x.2)
  | [], prev, T, m, _ => by
    simp only [List.length_nil, Nat.zero_add, encE, List.nil_append, lastOf]
    cases decN m prev T <;> rfl
  | e :: es, prev, T, m, h => by
    obtain ⟨h1, h2, h3⟩ := h
    have ih := decN_enc es (some e.1) T m h3
    rw [show (e :: es).length + m = (es.length + m) + 1 by simp; omega]
    simp only [decN, encE, List.append_assoc]
    rw [decE_enc (encE es ++ T) ⟨h2.1, h2.2.1, h2.2.2.2⟩, if_pos ⟨h1, h2.2.2.1⟩]
    simp only [List.drop_left, ih, lastOf]
    cases decN m (lastOf (some e.1) es) T with
    | none => rfl
    | some x => simp; omega

theorem decN_all (es : List Ent) (prev : Option (List UInt8)) (T : List UInt8) (h : Valid prev es) : decN es.length prev (encE es ++ T) = some (es, (encE es).length) := by
  have := decN_enc es prev T 0 h
  simpa [decN] using this

/-- A flawed entry behind good ones is refused. -/
theorem decN_bad (es : List Ent) (prev : Option (List UInt8)) (e : Ent) (T : List UInt8) (m : Nat) (h : Valid prev es) (he : 1 ≤ e.1.length ∧ e.1.length ≤ 255 ∧ e.2 < 18446744073709551616) (hb : ¬ (above (lastOf prev es) e.1 = true ∧ e.2 ≠ 0)) :
    decN (es.length + (m + 1)) prev (encE es ++ (enc1 e ++ T)) = none := by
  rw [decN_enc es prev _ _ h]
  simp only [decN]
  rw [decE_enc T he, if_neg hb]
  rfl

theorem enc1_length (e : Ent) (h : 1 ≤ e.1.length) : 3 ≤ (enc1 e).length := by
  have h1 := uvarint_pos e.1.length
  have h2 := uvarint_pos e.2
  simp [enc1]; omega
theorem encE_length : ∀ es : List Ent, (∀ e ∈ es, 1 ≤ e.1.length) → 3 * es.length ≤ (encE es).length
  | [], _ => by simp [encE]
  | e :: es, h => by
    have h1 := enc1_length e (h e (by simp))
    have h2 := encE_length es (fun x hx => h x (by simp [hx]))
    simp [encE]; omega
theorem encE_append (xs ys : List Ent) : encE (xs ++ ys) = encE xs ++ encE ys := by
  induction xs with
  | nil => rfl
  | cons x xs ih => simp [encE, ih]
theorem Valid.nodes : ∀ {es : List Ent} {prev : Option (List UInt8)}, Valid prev es → ∀ e ∈ es, EntOk e
  | [], _, _, e, he => by cases he
  | x :: es, prev, h, e, he => by
    rcases List.mem_cons.1 he with rfl | he
    · exact h.2.1
    · exact Valid.nodes h.2.2 e he

/-- WHAT IS ACCEPTED IS THE FORM OF A CLOCK. -/
theorem dec_sound {L : List UInt8} {es : List Ent} {k : Nat} (h : dec L = some (es, k)) : Valid none es ∧ L = enc es ++ L.drop k ∧ k = (enc es).length := by
  cases L with
  | nil => cases h
  | cons b L =>
    simp only [dec] at h
    split at h
    · rename_i hb
      split at h
      · cases h
      · rename_i n k1 h1
        split at h
        · split at h
          · cases h
          · rename_i es' k' h2
            simp only [Option.some.injEq, Prod.mk.injEq] at h
            obtain ⟨rfl, rfl⟩ := h
            obtain ⟨i1, i2, i3⟩ := rd_inv h1
            obtain ⟨b1, b2, b3, b4⟩ := decN_sound _ _ _ _ _ h2
            subst b1
            have hb1 : b = 1 := UInt8.toNat_inj.1 (by simpa using hb)
            subst hb1
            refine ⟨b2, ?_, by simp [enc, ← i2, b4]; omega⟩
            rw [show 1 + k1 + k' = (k1 + k') + 1 by omega, List.drop_succ_cons]
            unfold enc
            simp only [List.cons_append, List.append_assoc]
            congr 1
            conv => lhs; rw [i3, b3]
            rw [List.drop_drop]
        · cases h
    · cases h

/-- THE FORM OF A CLOCK, WHATEVER FOLLOWS, IS READ BACK. -/
theorem dec_enc (es : List Ent) (T : List UInt8) (h : Valid none es) (hl : es.length < 18446744073709551616) : dec (enc es ++ T) = some (es, (enc es).length) := by
  have hr : rd (Lib.uvarint es.length ++ (encE es ++ T)) = some (es.length, (Lib.uvarint es.length).length) := rd_uvarint _ hl _
  have h3 := encE_length es (fun e he => (Valid.nodes h e he).1)
  unfold enc
  simp only [List.cons_append, List.append_assoc, dec]
  rw [if_pos (by decide)]
  simp only [hr, List.drop_left, decN_all es none T h]
  rw [if_pos (by simp; omega)]
  simp; omega

/-- A FORM WITH A FLAWED ENTRY IS REFUSED. -/
theorem dec_bad (es : List Ent) (e : Ent) (fs : List Ent) (h : Valid none es) (he : 1 ≤ e.1.length ∧ e.1.length ≤ 255 ∧ e.2 < 18446744073709551616) (hb : ¬ (above (lastOf none es) e.1 = true ∧ e.2 ≠ 0)) (hl : es.length + (fs.length + 1) < 18446744073709551616) :
    dec (enc (es ++ e :: fs)) = none := by
  have hr : rd (Lib.uvarint (es ++ e :: fs).length ++ encE (es ++ e :: fs)) = some ((es ++ e :: fs).length, (Lib.uvarint (es ++ e :: fs).length).length) := rd_uvarint _ (by simpa using hl) _
  have hn : decN (es ++ e :: fs).length none (encE (es ++ e :: fs)) = none := by
    have := decN_bad es none e (encE fs) fs.length h he hb
    rw [encE_append]
    simpa [encE] using this
  unfold enc
  simp only [dec, hr, List.drop_left, hn]
  simp

end Go.Proofs.YbulkbguFmt
