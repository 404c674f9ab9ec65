/-
  DERIVED. THE WALKS: ErrAt (33), (*Reader).Uvarint (34), turned from the Door seat's text.
-/
import Derived.Test.YbulkbguFmtPlain
import Derived.Test.YbulkbguFmtShelf
import Derived.Test.YbulkbguFmtRows
import Derived.WalkKit
import Derived.WalkSpells
import Derived.WalkLawsBesides
import Derived.BigQuiet
import Derived.Deep.QuietTactic
import Derived.Lib.SmallJoins
import Derived.Lib.AppendIntMem
import Derived.Lib.ItoaLen
namespace Go.Proofs.YbulkbguFmt
open Go.RowKit

/-- strconv's table of powers of ten lies as its initialiser laid it. -/
def Tab (w : World) : Prop := Lib.TabIs Ybaf.prog w "internal/strconv.uint64pow10" .u64 Lib.pow10Tab

/-- An error of errors.New's make came back beside what else; nothing old has turned. -/
def Err (mk : Value → Value) (w : World) (e : Ending) (w' : World) : Prop :=
  ∃ b : Nat, e = .returned (mk (.iface 111 (.pointer (some ⟨b, 0, none⟩)))) ∧ Below w.heap.size w w'

/-- strconv.Itoa, its world said by 'Below'. -/
theorem itoa (n : Int) (w : World) (ht : Tab w) (h0 : 0 ≤ n) (h1 : n ≤ 9223372036854775807) :
    Calls Ybaf.prog 46 #[.int .i64 n] w fun e w' => e = .returned (.string ⟨(Lib.itoa n).toArray⟩) ∧ Below w.heap.size w w' := by
  refine (Ybaf.strconv_Itoa n (by omega) h1 w ht).mono ?_
  rintro e w' ⟨rfl, k, os, rfl⟩
  exact ⟨rfl, Lib.below_grow _ _ (Nat.le_refl _) _ _⟩

set_option maxHeartbeats 400000 in
theorem errAt (n : Int) (s : ByteArray) (w : World) (ht : Tab w) (h0 : 0 ≤ n) (h1 : n ≤ 9223372036854775807) (hs : s.size ≤ 1000) :
    Calls Ybaf.prog 33 #[.int .i64 n, .string s] w (Err id w) := by
  go_enter Ybaf.func33, Ybaf.ntmps33
  go_wp2_with fail
  refine (itoa n _ ht h0 h1).mono ?_
  rintro e w1 ⟨rfl, hb⟩
  have hl := Lib.itoa_length_le n (by omega) (by omega)
  go_wp2
  go_ret
  exact ⟨_, rfl, hb.alloc hb.size _⟩

theorem Tab.below {w w' : World} (h : Tab w) (hb : Below w.heap.size w w') : Tab w' :=
  Joins.tab_stays (by kernel_rfl : Ybaf.prog.globalNamed "internal/strconv.uint64pow10" = some 2) h hb (Nat.le_refl _)

/-- A Reader at ⟨r, ro⟩ over the bytes l, standing at p: Data's array lies in block g from o on. -/
structure Reads (r ro g o cap : Nat) (l : List UInt8) (p : Nat) (w : World) : Prop where
  data : w.cell? ⟨r, ro, none⟩ = some (.slice (some ⟨g, o, none⟩) l.length cap)
  pos : w.cell? ⟨r, ro + 1, none⟩ = some (.int .i64 p)
  free : w.frozen? ⟨r, ro + 1, none⟩ = false
  cells : ∀ j (hj : j < l.length), w.cell? ⟨g, o + j, none⟩ = some (.int .u8 (l[j]).toNat)
  le : p ≤ l.length
  fits : l.length ≤ cap
  big : cap ≤ 9223372036854775807

set_option maxHeartbeats 400000 in
theorem uv_ok (r ro g o cap : Nat) (l : List UInt8) (p v k : Nat) (w : World) (hR : Reads r ro g o cap l p w) (h : rd (l.drop p) = some (v, k)) :
    Calls Ybaf.prog 34 #[.pointer (some ⟨r, ro, none⟩)] w fun e w' => e = .returned (.tuple #[.int .u64 v, .nilIface]) ∧ ∃ nq, w' = (w.setCell ⟨r, ro + 1, none⟩ (.int .i64 (p + k : Nat))).drewN nq := by
  obtain ⟨hd2, hd1, hk1, hk10, hkl, hv, hlast⟩ := rd_some h
  rw [List.length_drop] at hkl
  have hp : p < l.length := by omega
  obtain ⟨c0, c1, c2, c3, _, c5, c6⟩ := hR
  have c3' : ∀ j (hj : j < (l.drop p).length), w.cell? ⟨g, o + p + j, none⟩ = some (.int .u8 ((l.drop p)[j]).toNat) := fun j hj => by
    rw [List.length_drop] at hj
    rw [List.getElem_drop, Nat.add_assoc]
    exact c3 (p + j) (by omega)
  go_enter Ybaf.func34, Ybaf.ntmps34
  go_wp2
  go_quiet ((go_at_call 47; exact Calls.quiet_of_same (Ybaf.binary_Uvarint g (o + p) (l.length - p) _ (l.drop p) _ (by simp) (by simpa using c3'))))
  go_wp2
  by_cases hk : 1 < k
  · have hk' : (1 : Int) < (k : Int) := by omega
    obtain ⟨q, hq⟩ : ∃ q : Nat, q = p + k - 1 := ⟨_, rfl⟩
    have hql : q < l.length := by omega
    obtain ⟨x, hcell, hz⟩ : ∃ x : Int, w.cell? ⟨g, o + q, none⟩ = some (.int .u8 x) ∧ (x == 0) = false := by
      refine ⟨(l[q]'hql).toNat, c3 q hql, ?_⟩
      have hx : ((l[q]'hql).toNat : Int) ≠ 0 := fun hc => hlast ⟨hk, by
        rw [List.getD_eq_getElem?_getD, List.getElem?_drop, List.getElem?_eq_getElem (by omega : p + (k - 1) < l.length)]
        have e : p + (k - 1) = q := by omega
        simp only [e, Option.getD_some]
        exact UInt8.toNat_inj.1 (by simpa using hc)⟩
      simpa using hx
    have hb2 : (q : Int) < (l.length : Int) := by omega
    have hw1 : IntKind.i64.wrap ((p : Int) + (k : Int)) = (p : Int) + (k : Int) := by rw [IntKind.wrap_i64]; omega
    have hw2 : IntKind.i64.wrap ((p : Int) + (k : Int) - 1) = (q : Int) := by rw [IntKind.wrap_i64]; omega
    clear hq
    clear c3 c3'
    go_quiet (fail)
    go_wp2
    go_ret2
    exact ⟨rfl, _, rfl⟩
  · have hk' : decide ((1 : Int) < (k : Int)) = false := by simp; omega
    go_quiet (fail)
    go_wp2
    go_ret2
    exact ⟨rfl, _, rfl⟩

theorem Tab.drewN {w : World} (h : Tab w) (n : Nat) : Tab (w.drewN n) := h.below (below_drewN (Below.refl _ _) n)

/-- The texts of Uvarint's four refusals are short. -/
abbrev tup0 : Value → Value := fun v => .tuple #[.int .u64 0, v]

set_option maxHeartbeats 800000 in
theorem uv_err_lo (r ro g o cap : Nat) (l : List UInt8) (p : Nat) (w : World) (ht : Tab w) (hR : Reads r ro g o cap l p w) (hp : p < l.length) (m : Int) (hd2 : (Lib.uvarintDec (l.drop p)).2 = m) (hm : m ≤ 0) :
    Calls Ybaf.prog 34 #[.pointer (some ⟨r, ro, none⟩)] w (Err tup0 w) := by
  obtain ⟨c0, c1, c2, c3, _, c5, c6⟩ := hR
  have c3' : ∀ j (hj : j < (l.drop p).length), w.cell? ⟨g, o + p + j, none⟩ = some (.int .u8 ((l.drop p)[j]).toNat) := fun j hj => by
    rw [List.length_drop] at hj
    rw [List.getElem_drop, Nat.add_assoc]
    exact c3 (p + j) (by omega)
  go_enter Ybaf.func34, Ybaf.ntmps34
  go_wp2
  go_quiet ((go_at_call 47; exact Calls.quiet_of_same (Ybaf.binary_Uvarint g (o + p) (l.length - p) _ (l.drop p) _ (by simp) (by simpa using c3'))))
  by_cases h0 : m = 0
  · subst h0
    go_wp2_with (go_at_call 33; refine (errAt p _ _ (ht.drewN _) (by omega) (by omega) (by decide)).mono ?_; rintro e w1 ⟨b, rfl, hb⟩)
    go_ret2
    exact ⟨b, rfl, (below_drewN (Below.refl _ _) _).trans hb⟩
  · have h0' : (m == 0) = false := by simpa using h0
    by_cases h1 : m < -10
    · go_wp2_with (go_at_call 33; refine (errAt p _ _ (ht.drewN _) (by omega) (by omega) (by decide)).mono ?_; rintro e w1 ⟨b, rfl, hb⟩)
      go_ret2
      exact ⟨b, rfl, (below_drewN (Below.refl _ _) _).trans hb⟩
    · have h1' : decide (m < -10) = false := by simpa using h1
      have h2 : m < 0 := by omega
      go_wp2_with (go_at_call 33; refine (errAt p _ _ (ht.drewN _) (by omega) (by omega) (by decide)).mono ?_; rintro e w1 ⟨b, rfl, hb⟩)
      go_ret2
      exact ⟨b, rfl, (below_drewN (Below.refl _ _) _).trans hb⟩

set_option maxHeartbeats 800000 in
theorem uv_err_end (r ro g o cap : Nat) (l : List UInt8) (w : World) (ht : Tab w) (hR : Reads r ro g o cap l l.length w) :
    Calls Ybaf.prog 34 #[.pointer (some ⟨r, ro, none⟩)] w (Err tup0 w) := by
  obtain ⟨c0, c1, c2, c3, _, c5, c6⟩ := hR
  have hd : (Lib.uvarintDec []).2 = 0 := rfl
  have hd1 : (Lib.uvarintDec []).1 = 0 := rfl
  clear c3
  go_enter Ybaf.func34, Ybaf.ntmps34
  go_wp2
  go_quiet ((go_at_call 47; exact Calls.quiet_of_same (Ybaf.binary_Uvarint_empty _ _ _)))
  go_wp2_with (go_at_call 33; refine (errAt l.length _ _ (ht.drewN _) (by omega) (by omega) (by decide)).mono ?_; rintro e w1 ⟨b, rfl, hb⟩)
  all_goals
    go_ret2
    exact ⟨b, rfl, (below_drewN (Below.refl _ _) _).trans hb⟩

set_option maxHeartbeats 800000 in
theorem uv_err_last (r ro g o cap : Nat) (l : List UInt8) (p k : Nat) (w : World) (ht : Tab w) (hR : Reads r ro g o cap l p w) (hd2 : (Lib.uvarintDec (l.drop p)).2 = (k : Int)) (hk : 1 < k) (hlast : (l.drop p).getD (k - 1) 0 = 0) :
    Calls Ybaf.prog 34 #[.pointer (some ⟨r, ro, none⟩)] w (Err tup0 w) := by
  have hkl := dec_le (l.drop p)
  rw [List.length_drop, hd2] at hkl
  have hk10 := (dec_ge (l.drop p)).2
  rw [hd2] at hk10
  have hp : p < l.length := by omega
  obtain ⟨c0, c1, c2, c3, _, c5, c6⟩ := hR
  have c3' : ∀ j (hj : j < (l.drop p).length), w.cell? ⟨g, o + p + j, none⟩ = some (.int .u8 ((l.drop p)[j]).toNat) := fun j hj => by
    rw [List.length_drop] at hj
    rw [List.getElem_drop, Nat.add_assoc]
    exact c3 (p + j) (by omega)
  have hk' : (1 : Int) < (k : Int) := by omega
  obtain ⟨q, hq⟩ : ∃ q : Nat, q = p + k - 1 := ⟨_, rfl⟩
  have hql : q < l.length := by omega
  have hcell : w.cell? ⟨g, o + q, none⟩ = some (.int .u8 0) := by
    rw [c3 q hql]
    rw [List.getD_eq_getElem?_getD, List.getElem?_drop, List.getElem?_eq_getElem (by omega : p + (k - 1) < l.length)] at hlast
    have e : p + (k - 1) = q := by omega
    simp only [e, Option.getD_some] at hlast
    rw [hlast]; rfl
  have hb2 : (q : Int) < (l.length : Int) := by omega
  have hw1 : IntKind.i64.wrap ((p : Int) + (k : Int)) = (p : Int) + (k : Int) := by rw [IntKind.wrap_i64]; omega
  have hw2 : IntKind.i64.wrap ((p : Int) + (k : Int) - 1) = (q : Int) := by rw [IntKind.wrap_i64]; omega
  clear hq hlast
  go_enter Ybaf.func34, Ybaf.ntmps34
  go_wp2
  go_quiet ((go_at_call 47; exact Calls.quiet_of_same (Ybaf.binary_Uvarint g (o + p) (l.length - p) _ (l.drop p) _ (by simp) (by simpa using c3'))))
  clear c3 c3'
  go_wp2
  go_quiet (fail)
  go_wp2_with (go_at_call 33; refine (errAt p _ _ (ht.drewN _) (by omega) (by omega) (by decide)).mono ?_; rintro e w1 ⟨b, rfl, hb⟩)
  go_ret2
  exact ⟨b, rfl, (below_drewN (Below.refl _ _) _).trans hb⟩

/-- (*Reader).Uvarint where it refuses. -/
theorem uv_err (r ro g o cap : Nat) (l : List UInt8) (p : Nat) (w : World) (ht : Tab w) (hR : Reads r ro g o cap l p w) (h : rd (l.drop p) = none) :
    Calls Ybaf.prog 34 #[.pointer (some ⟨r, ro, none⟩)] w (Err tup0 w) := by
  by_cases hp : p < l.length
  · rcases rd_none h with h1 | ⟨h1, h2⟩
    · exact uv_err_lo r ro g o cap l p w ht hR hp _ rfl h1
    · obtain ⟨k, hk⟩ : ∃ k : Nat, (Lib.uvarintDec (l.drop p)).2 = (k : Int) := ⟨_, (Int.toNat_of_nonneg (by omega)).symm⟩
      rw [hk] at h1 h2
      exact uv_err_last r ro g o cap l p k w ht hR hk (by omega) (by simpa using h2)
  · obtain rfl : p = l.length := by have := hR.le; omega
    exact uv_err_end r ro g o cap l w ht hR

end Go.Proofs.YbulkbguFmt
