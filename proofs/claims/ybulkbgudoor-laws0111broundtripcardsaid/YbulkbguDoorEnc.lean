/-
  DERIVED. THE WALK: zzs0111benc (5): a value appended in zig-zag shortest uvarint form (after the shelf's Derived/Shelf/Bin/AppendUvarint.lean).
-/
import Derived.Test.YbulkbguDoorModel
import Derived.Lib.VarintMem
import Derived.Lib.Slices
import Derived.OwnWalk
import Derived.Laws.AppendOwnNone
namespace Go.Proofs.YbulkbguDoor
open Go.RowKit

theorem zig_eq (v : Int) (hv0 : -9223372036854775808 ≤ v) (hv1 : v ≤ 9223372036854775807) :
    bits BinOp.xor IntKind.u64 (IntKind.u64.wrap (IntKind.u64.wrap v * 2)) (IntKind.u64.wrap (v / 9223372036854775808)) = ((Lib.zigzag v : Nat) : Int) := by
  by_cases h : 0 ≤ v
  · have e1 : IntKind.u64.wrap (v / 9223372036854775808) = ((0 : Nat) : Int) := by rw [IntKind.wrap_u64]; omega
    have e2 : IntKind.u64.wrap (IntKind.u64.wrap v * 2) = (((2 * v).toNat : Nat) : Int) := by rw [IntKind.wrap_u64, IntKind.wrap_u64]; omega
    rw [e1, e2, u64_xor_nat _ _ (by omega) (by omega), Nat.xor_zero]
    have := Lib.zigzag_nonneg h
    omega
  · have h0 := Lib.zigzag_neg hv0 (by omega)
    rw [← h0]
    have e1 : IntKind.u64.wrap (v / 9223372036854775808) = ((18446744073709551615 : Nat) : Int) := by rw [IntKind.wrap_u64]; omega
    have e2 : IntKind.u64.wrap (IntKind.u64.wrap v * 2) = (((2 * v + 18446744073709551616).toNat : Nat) : Int) := by rw [IntKind.wrap_u64, IntKind.wrap_u64]; omega
    have e3 : IntKind.u64.max = ((18446744073709551615 : Nat) : Int) := by decide
    rw [e1, e2, e3, u64_xor_nat _ _ (by omega) (by omega), u64_xor_nat _ _ (by omega) (by omega), Nat.xor_comm]

set_option maxHeartbeats 8000000 in
set_option maxRecDepth 100000 in
theorem enc_walk (B n : Nat) (v : Int) (hv0 : -9223372036854775808 ≤ v) (hv1 : v ≤ 9223372036854775807) (sv : Value) (xs : List Value) (w : World) (hown : w.ownsRow B 5 1 sv n xs) (hBw : B ≤ w.heap.size) (hlim : n + 10 ≤ 140737488355328) :
    Calls Ybad.prog 5 #[sv, .int .i64 v] w fun e w' => ∃ v', e = .returned v' ∧ w'.ownsRow B 5 1 v' (n + (Lib.uvarint (Lib.zigzag v)).length) (xs ++ Lib.byteCells (Lib.uvarint (Lib.zigzag v))) ∧ Below B w w' := by
  obtain ⟨i0, hi, hz0, hz1, hz2⟩ := info_parts Ybad.info5
  have hzl := Lib.zigzag_lt hv0 hv1
  have HZ : Hid (bits BinOp.xor IntKind.u64 (IntKind.u64.wrap (IntKind.u64.wrap v * 2)) (IntKind.u64.wrap (v / 9223372036854775808)) = ((Lib.zigzag v : Nat) : Int)) := zig_eq v hv0 hv1
  obtain ⟨x, hxz⟩ : ∃ x : Nat, Lib.zigzag v = x := ⟨_, rfl⟩
  rw [hxz] at HZ hzl ⊢
  clear hxz
  have hlen := Lib.uvarint_length64 hzl
  go_enter Ybad.func5, Ybad.ntmps5
  go_wp2
  go_loopw [0, 5] (fun vb vx wr => ∃ (y : Nat) (pre : List UInt8), vx = .int .u64 y ∧ y ≤ x ∧ Lib.uvarint x = pre ++ Lib.uvarint y ∧ wr.ownsRow B 5 1 vb (n + pre.length) (xs ++ Lib.byteCells pre) ∧ Below B w wr)
    (fun _ vx _ => (intOf vx).toNat)
  case atStart => exact ⟨x, [], val_int HZ.out, Nat.le_refl _, rfl, by simpa [Lib.byteCells] using hown, Below.refl _ _⟩
  case round =>
    clear HZ
    obtain ⟨y, pre, rfl, hy, hsplit, hown1, hnx⟩ := hrel
    have hpl : pre.length + (Lib.uvarint y).length ≤ 10 := by
      have h2 := congrArg List.length hsplit
      rw [List.length_append] at h2
      omega
    have hyp := Lib.uvarint_pos y
    by_cases h128 : 128 ≤ y
    · -- ONE BYTE WITH THE BIT 128, AND ON
      have hor : bits .or .u8 ((y : Int) % 256) 128 = ((y % 128 + 128 : Nat) : Int) := by
        rw [Lib.u8_or128_any _ (by omega) (by omega)]
        omega
      go_wp2_with (at_builtin; refine wpList_append_own _ rfl _ _ 22 rfl B 5 i0 (.int .u8 0) 1 1 Ybad.underlying22 hi hz0 hz1 hz2 rfl (by decide) _ _ _ rfl (hown1.alloc _) ⟨wr.heap.size, 0, none⟩ 1 1 [Value.int .u8 ((y % 128 + 128 : Nat) : Int)] rfl rfl ?c1 ?c2 ?c3 ?c4 ?c5 ?_)
      case c1 =>
        intro j u hj
        match j, hj with
        | 0, hj => simp at hj; subst hj; simp [Addr.add]
      case c2 => intro u hu; simp at hu; subst hu; rfl
      case c3 => unfold maxLen; omega
      case c4 => omega
      case c5 => have := hnx.size; simp; omega
      intro v' w1 hown' hgrow _
      have hnx1 : Below B w w1 := (hnx.alloc (by have := hnx.size; omega) _).grown hgrow (by have := hnx.size; simp; omega) (fun k hk => (hown1.lt k hk).1)
      go_wp2
      go_roundw
      case rel =>
        refine ⟨y / 128, pre ++ [(y % 128 + 128).toUInt8], by go_num, by omega, by rw [hsplit, Lib.uvarint_big h128]; simp, ?_, hnx1⟩
        have ec : ((y % 128 + 128 : Nat) : Int) = (y : Int) % 128 + 128 := by omega
        rw [Lib.byteCells_snoc pre (by omega), List.length_append, List.length_singleton, ← Nat.add_assoc, ec]
        exact hown'
      case measure => simp [intOf]; omega
    · -- THE LAST BYTE
      have hsm : Lib.uvarint y = [y.toUInt8] := Lib.uvarint_small (by omega)
      go_wp2_with (at_builtin; refine wpList_append_own _ rfl _ _ 22 rfl B 5 i0 (.int .u8 0) 1 1 Ybad.underlying22 hi hz0 hz1 hz2 rfl (by decide) _ _ _ rfl (hown1.alloc _) ⟨wr.heap.size, 0, none⟩ 1 1 [Value.int .u8 (y : Int)] rfl rfl ?c1 ?c2 ?c3 ?c4 ?c5 ?_)
      case c1 =>
        intro j u hj
        match j, hj with
        | 0, hj => simp at hj; subst hj; simp [Addr.add]
      case c2 => intro u hu; simp at hu; subst hu; rfl
      case c3 => unfold maxLen; omega
      case c4 => omega
      case c5 => have := hnx.size; simp; omega
      intro v' w1 hown' hgrow _
      have hnx1 : Below B w w1 := (hnx.alloc (by have := hnx.size; omega) _).grown hgrow (by have := hnx.size; simp; omega) (fun k hk => (hown1.lt k hk).1)
      go_wp2
      go_ret
      refine ⟨v', rfl, ?_, hnx1⟩
      rw [hsplit, hsm, Lib.byteCells_snoc pre (by omega), List.length_append, List.length_singleton, ← Nat.add_assoc]
      exact hown'

end Go.Proofs.YbulkbguDoor
