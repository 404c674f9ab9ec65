/-
  DERIVED. THE WALKS: (*Reader).Varint (7), (*Reader).Integer (6).
-/
import Derived.Test.YbulkbguDoorWire
import Derived.Lib.Zigzag
namespace Go.Proofs.YbulkbguDoor
open Go.RowKit

set_option maxHeartbeats 800000 in
theorem vi_ok (r ro g o cap : Nat) (l : List UInt8) (p v k : Nat) (w : World) (hR : Reads r ro g o cap l p w) (h : rd (l.drop p) = some (v, k)) :
    Calls Ybad.prog 7 #[.pointer (some ⟨r, ro, none⟩)] w fun e w' => e = .returned (.tuple #[.int .i64 (Lib.unzigzag v), .nilIface]) ∧ ∃ nq, w' = (w.setCell ⟨r, ro + 1, none⟩ (.int .i64 (p + k : Nat))).drewN nq := by
  have hv := (rd_some h).2.2.2.2.2.1
  have hsg : IntKind.i64.signed = true := rfl
  by_cases hodd : v % 2 = 1
  · have ho : (bits BinOp.and IntKind.u64 (v : Int) 1 != 0) = true := by rw [and_one_u64 _ (by omega) (by omega)]; simp; omega
    have hn : bits BinOp.xor IntKind.i64 (-1) ((v : Int) / 2) = Lib.unzigzag v := by
      have := Lib.i64_not (v / 2) (by omega)
      rw [show ((v / 2 : Nat) : Int) = (v : Int) / 2 by omega] at this
      rw [this, Lib.unzigzag, if_neg (by omega)]
      omega
    go_enter Ybad.func7, Ybad.ntmps7
    go_wp2_with (go_at_call 9; refine (uv_ok r ro g o cap l p v k _ hR h).mono ?_; rintro e w' ⟨rfl, nq, rfl⟩)
    go_ret2
    exact ⟨rfl, nq, rfl⟩
  · have ho : (bits BinOp.and IntKind.u64 (v : Int) 1 != 0) = false := by rw [and_one_u64 _ (by omega) (by omega)]; simp; omega
    go_enter Ybad.func7, Ybad.ntmps7
    go_wp2_with (go_at_call 9; refine (uv_ok r ro g o cap l p v k _ hR h).mono ?_; rintro e w' ⟨rfl, nq, rfl⟩)
    go_ret2
    refine ⟨?_, nq, rfl⟩
    rw [Lib.unzigzag, if_pos (by omega)]
    rfl

abbrev tupI : Value → Value := fun v => .tuple #[.int .i64 0, v]

set_option maxHeartbeats 800000 in
theorem vi_err (r ro g o cap : Nat) (l : List UInt8) (p : Nat) (w : World) (ht : Tab w) (hR : Reads r ro g o cap l p w) (h : rd (l.drop p) = none) :
    Calls Ybad.prog 7 #[.pointer (some ⟨r, ro, none⟩)] w (Err tupI w) := by
  go_enter Ybad.func7, Ybad.ntmps7
  go_wp2_with (go_at_call 9; refine (uv_err r ro g o cap l p _ ht hR h).mono ?_; rintro e w1 ⟨b, rfl, hb⟩)
  go_ret2
  exact ⟨b, rfl, hb⟩

set_option maxHeartbeats 800000 in
theorem int_err (r ro g o cap : Nat) (l : List UInt8) (p : Nat) (w : World) (ht : Tab w) (hR : Reads r ro g o cap l p w) (h : rd (l.drop p) = none) :
    Calls Ybad.prog 6 #[.pointer (some ⟨r, ro, none⟩)] w (Err tupI w) := by
  have hc := hR.pos
  go_enter Ybad.func6, Ybad.ntmps6
  go_wp2_with (go_at_call 7; refine (vi_err r ro g o cap l p _ ht hR h).mono ?_; rintro e w1 ⟨b, rfl, hb⟩)
  go_ret2
  exact ⟨b, rfl, hb⟩

set_option maxHeartbeats 800000 in
theorem int_ok (r ro g o cap : Nat) (l : List UInt8) (p v k : Nat) (w : World) (hR : Reads r ro g o cap l p w) (h : rd (l.drop p) = some (v, k)) :
    Calls Ybad.prog 6 #[.pointer (some ⟨r, ro, none⟩)] w fun e w' => e = .returned (.tuple #[.int .i64 (Lib.unzigzag v), .nilIface]) ∧ ∃ nq, w' = (w.setCell ⟨r, ro + 1, none⟩ (.int .i64 (p + k : Nat))).drewN nq := by
  have hc := hR.pos
  go_enter Ybad.func6, Ybad.ntmps6
  go_wp2_with (go_at_call 7; refine (vi_ok r ro g o cap l p v k _ hR h).mono ?_; rintro e w' ⟨rfl, nq, rfl⟩)
  go_ret2
  exact ⟨rfl, nq, rfl⟩

end Go.Proofs.YbulkbguDoor
