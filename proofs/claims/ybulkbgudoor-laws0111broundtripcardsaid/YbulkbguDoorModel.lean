/-
  DERIVED. THE WALK: LawS0111BModel (4).
-/
import Derived.Test.YbulkbguDoorInteger
import Derived.Test.YbulkbguDoorBits
import Derived.Deep.OwnRows
import Derived.Laws.CopyOwn
import Derived.Stop.LaidErr
import Derived.Deep.CutBlock
import Derived.Deep.DeepCutAuto
namespace Go.Proofs.YbulkbguDoor
open Go.RowKit

theorem Ybad.info5 : (Ybad.prog.info? 5).map (fun i => (i.zero, i.size, i.bytes)) = some (some (.int .u8 0), 1, 1) := by kernel_rfl
theorem Ybad.size5 : (Ybad.prog.info? 5).map (·.size) = some 1 := by kernel_rfl

/-- A slice of bytes that came in: its elements are the bytes l. -/
def IsBytes (w : World) (a : Option Addr) (l : List UInt8) : Prop :=
  l.length = 0 ∨ ∃ b o, a = some ⟨b, o, none⟩ ∧ ∀ j (hj : j < l.length), w.cell? ⟨b, o + j, none⟩ = some (.int .u8 (l[j]).toNat)

abbrev U8s (l : List UInt8) : List Value := l.map fun b => .int .u8 (b.toNat : Int)

set_option maxHeartbeats 400000 in
theorem model_big (a : Option Addr) (n cap : Nat) (p : Int) (w : World) (hn : 1024 < n) (hm : n ≤ 9223372036854775807) :
    Calls Ybad.prog 4 #[.slice a n cap, .int .u16 p] w fun e w' => e = .returned (.bool true) ∧ Below w.heap.size w w' := by
  go_enter Ybad.func4, Ybad.ntmps4
  go_wp2
  go_ret
  exact ⟨rfl, Below.refl _ _⟩

/-- 'data := make([]byte, len(raw)); copy(data, raw)': the new row holds raw's bytes. -/
theorem copy_made (a : Option Addr) (cap : Nat) (l : List UInt8) (w : World) (hB : IsBytes w a l) :
    ∃ W, (Builtin.copy_ #[22, 22] 3 #[.slice (some ⟨w.heap.size, 0, none⟩) l.length l.length, .slice a l.length cap]).run Ybad.prog (w.alloc (.cells (madeCells #[.int .u8 0] l.length) 5)) = .ok (.int .i64 (l.length : Int)) W ∧
      W.heap[w.heap.size]? = some (.cells (U8s l).toArray 5 (0, 0)) ∧ Below w.heap.size w W := by
  by_cases h0 : l.length = 0
  · have hl : l = [] := List.eq_nil_of_length_eq_zero h0
    subst hl
    refine ⟨_, run_copy_none (P := Ybad.prog) _ 22 22 3 5 _ _ _ _ _ _ Ybad.underlying22 Ybad.size5 (by simp), ?_, (Below.refl _ _).alloc (Nat.le_refl _) _⟩
    rw [heap_alloc_new]
    simp [madeCells]
  · rcases hB with h | ⟨b, o, rfl, hc⟩
    · exact absurd h h0
    have hgw := heap_alloc_new w (.cells (madeCells #[.int .u8 0] l.length) 5)
    have hr := run_copy_row (P := Ybad.prog) _ 22 22 3 5 w.heap.size 0 l.length l.length ⟨b, o, none⟩ l.length cap _ 5 (U8s l) Ybad.underlying22 Ybad.size5 hgw (by simp) (fun j v hj => by
        have hjl : j < l.length := by have := (List.getElem?_eq_some_iff.1 hj).1; simpa using this
        have hv : v = .int .u8 (l[j].toNat : Int) := by simpa [U8s, hjl] using hj.symm
        subst hv
        exact cell?_alloc_old _ (by rw [Addr.add_lit]; exact hc j hjl)) (by simp [size_madeCells]) (fun v hv => by
        obtain ⟨x, _, rfl⟩ := List.mem_map.1 hv; rfl)
    simp only [U8s, List.length_map] at hr
    refine ⟨_, hr, ?_, below_setRow ((Below.refl _ _).alloc (Nat.le_refl _) _) (Nat.le_refl _) _⟩
    rw [setRow_heap _ _ _ _ _ _ hgw]
    simp [size_madeCells]

set_option maxRecDepth 100000 in
set_option maxHeartbeats 800000 in
theorem model_walk (a : Option Addr) (cap : Nat) (l : List UInt8) (pv : Nat) (w : World) (ht : Tab w) (hB : IsBytes w a l) (hn : l.length ≤ 1024) (hp0 : pv < 65536) :
    Calls Ybad.prog 4 #[.slice a l.length cap, .int .u16 pv] w fun e w' => e = .returned (.bool true) ∧ Below w.heap.size w w' := by
  have hmk := run_make_row' (P := Ybad.prog) 22 5 (.int .u8 0) 1 Ybad.underlying22 Ybad.info5 rfl .i64 .i64 l.length (by omega) (by omega)
  have hnb : (l.length : Int) ≤ 1024 := by omega
  obtain ⟨W, hcopy, hgW, hbW⟩ := copy_made a cap l w hB
  obtain ⟨p, hp⟩ : ∃ p : Nat, p = pv % (l.length + 1) := ⟨_, rfl⟩
  have hpl : p ≤ l.length := by have := Nat.mod_lt pv (by omega : l.length + 1 > 0); omega
  have hrem : (pv : Int) % ((l.length : Int) + 1) = (p : Int) := by rw [hp]; exact (Int.natCast_emod pv (l.length + 1)).symm
  clear hp
  have hcW : ∀ j (hj : j < l.length), W.cell? ⟨w.heap.size, j, none⟩ = some (.int .u8 (l[j]).toNat) := fun j hj => by
    rw [World.cell?, hgW]; simp [U8s, hj]
  go_enter Ybad.func4, Ybad.ntmps4
  go_upto_block 0 with fail
  rw [hrem]
  go_cut [7, 8, 9] (fun x ok n wx => wx = W ∧ ((ok = .bool false ∧ rd (l.drop p) = none) ∨ ∃ v m : Nat, ok = .bool true ∧ x = .int .u64 v ∧ n = .int .i64 m ∧ rd (l.drop p) = some (v, m)))
  case first =>
    go_wp2_with fail
    go_loop [7, 8, 9, 10, 11] (fun x ok n i _ => ∃ k acc : Nat, k ≤ 10 ∧ acc < 2 ^ (7 * k) ∧ x = .int .u64 acc ∧ ok = .bool false ∧ n = .int .i64 0 ∧ i = .int .i64 k ∧ Lib.uvarintDec (l.drop p) = Lib.uvarintFrom k acc ((l.drop p).drop k)) (fun _ _ _ i _ => 10 - (intOf i).toNat)
    case atStart => exact ⟨0, 0, by omega, by decide, rfl, rfl, rfl, rfl, rfl⟩
    case round =>
      obtain ⟨k, acc, hk, hacc, rfl, rfl, rfl, rfl, hdec⟩ := hrel
      have HD : Hid (Lib.uvarintDec (l.drop p) = Lib.uvarintFrom k acc ((l.drop p).drop k)) := hdec
      clear hdec
      have HA : Hid (acc < 2 ^ (7 * k)) := hacc
      clear hacc
      by_cases hk9 : k ≤ 9
      · by_cases hpk : p + k < l.length
        · have hk' : (k : Int) < 10 := by omega
          have hpk' : (p : Int) + (k : Int) < (l.length : Int) := by omega
          have hkL : k < (l.drop p).length := by rw [List.length_drop]; omega
          obtain ⟨bn, hb⟩ : ∃ bn : Nat, ((l.drop p)[k]'hkL).toNat = bn := ⟨_, rfl⟩
          have hcell : W.cell? ⟨w.heap.size, p + k, none⟩ = some (.int .u8 (bn : Int)) := by
            rw [hcW _ hpk, ← hb, List.getElem_drop]
          have hb256 : bn < 256 := by rw [← hb]; exact ((l.drop p)[k]'hkL).toNat_lt
          have HB : Hid (((l.drop p)[k]'hkL).toNat = bn) := hb
          clear hb hcW
          by_cases hb8 : bn < 128
          · have hb8' : (bn : Int) < 128 := by omega
            by_cases h9 : k = 9 ∧ 1 < bn
            · obtain ⟨rfl, h1⟩ := h9
              have h1' : (1 : Int) < (bn : Int) := by omega
              go_wp2
              go_meet
              case rel => exact ⟨rfl, Or.inl ⟨rfl, m_over HD.out hkL rfl (by rw [HB.out]; exact hb8) (by rw [HB.out]; exact h1)⟩⟩
            · by_cases h00 : 0 < k ∧ bn = 0
              · obtain ⟨hk0, rfl⟩ := h00
                have hk0' : (0 : Int) < (k : Int) := by omega
                clear h9
                go_wp2
                all_goals
                  go_meet
                  case rel => exact ⟨rfl, Or.inl ⟨rfl, m_zero HD.out hkL hk9 hk0 HB.out⟩⟩
              · have hfin := m_ok HD.out hkL hk9 (by rw [HB.out]; exact hb8) (by rw [HB.out]; exact h9) (by rw [HB.out]; exact h00)
                rw [HB.out] at hfin
                have HF : Hid (rd (l.drop p) = some (acc + bn * 2 ^ (7 * k), k + 1)) := hfin
                clear hfin
                by_cases hk8 : k = 9
                · subst hk8
                  have hb1 : bn ≤ 1 := by omega
                  have hb0 : ((bn : Int) == 0) = false := by simp; omega
                  have hd1 : decide ((1 : Int) < (bn : Int)) = false := by simp; omega
                  go_wp2
                  go_meet
                  case rel => exact ⟨rfl, Or.inr ⟨_, _, rfl, val_int (or_ok9 acc bn HA.out hb1), rfl, HF.out⟩⟩
                · have hk8' : ((k : Int) == 9) = false := by simp; omega
                  have hf := fits8 bn k (by omega) hb8
                  have HG : Hid (bn * 2 ^ (7 * k) < 18446744073709551616) := hf
                  clear hf
                  go_wp2
                  all_goals
                    go_meet
                    case rel => exact ⟨rfl, Or.inr ⟨_, _, rfl, val_int (or_ok acc bn k hk9 HA.out HG.out), by go_num, HF.out⟩⟩
          · have hb8' : ¬ (bn : Int) < 128 := by omega
            have hfin := m_next HD.out hkL hk9 (by rw [HB.out]; exact hb8)
            rw [HB.out] at hfin
            have HF : Hid (Lib.uvarintDec (l.drop p) = Lib.uvarintFrom (k + 1) (acc + bn % 128 * 2 ^ (7 * k)) ((l.drop p).drop (k + 1))) := hfin
            clear hfin
            go_wp2
            go_round
            case rel =>
              by_cases hk8 : k ≤ 8
              · exact ⟨k + 1, _, by omega, next_lt acc bn k HA.out, val_int (or_next acc bn k hk8 hb256 HA.out), rfl, rfl, by go_num, HF.out⟩
              · obtain rfl : k = 9 := by omega
                have h1 := bits_lo_u64 BinOp.or (acc : Int) (IntKind.u64.wrap (IntKind.u64.wrap (bits BinOp.and IntKind.u8 (bn : Int) 127) * 2 ^ (7 * 9)))
                have h2 := bits_hi_u64 BinOp.or (acc : Int) (IntKind.u64.wrap (IntKind.u64.wrap (bits BinOp.and IntKind.u8 (bn : Int) 127) * 2 ^ (7 * 9)))
                obtain ⟨a2, ha2⟩ := Int.eq_ofNat_of_zero_le h1
                refine ⟨10, a2, by omega, ?_, val_int ha2, rfl, rfl, by go_num, ?_⟩
                · rw [ha2] at h2
                  have e : (2 : Nat) ^ (7 * 10) = 1180591620717411303424 := by decide
                  omega
                · rw [Lib.uvarintFrom_ten a2 (acc + bn % 128 * 2 ^ (7 * 9))]; exact HF.out
            case measure => simp [intOf]; omega
        · have hpk' : ¬ (p : Int) + (k : Int) < (l.length : Int) := by omega
          have hpk2 : (l.length : Int) ≤ (p : Int) + (k : Int) := by omega
          have hk' : (k : Int) < 10 := by omega
          clear hcW
          go_wp2
          go_meet
          case rel => exact ⟨rfl, Or.inl ⟨rfl, m_end HD.out (by rw [List.length_drop]; omega)⟩⟩
      · have hk' : ¬ (k : Int) < 10 := by omega
        clear hcW
        go_wp2
        go_meet
        case rel => exact ⟨rfl, Or.inl ⟨rfl, m_ten HD.out (by omega)⟩⟩
  case rest =>
    obtain ⟨hwc, hcut⟩ := hcut
    subst hwc
    have hlt : w.heap.size < wc.heap.size := (Array.getElem?_eq_some_iff.1 hgW).1
    obtain ⟨O, hO⟩ : ∃ O : Obj, O = .cells #[.slice (some ⟨w.heap.size, 0, none⟩) l.length l.length, .int .i64 (p : Int)] 26 := ⟨_, rfl⟩
    have hR : Reads wc.heap.size 0 w.heap.size 0 l.length l p (wc.alloc O) := by
      subst hO
      exact ⟨by go_simp, by go_simp, by go_simp, fun j hj => by rw [Nat.zero_add]; exact cell?_alloc_old _ (hcW j hj), hpl, Nat.le_refl _, by omega⟩
    have hb2 : Below w.heap.size w (wc.alloc O) := hbW.alloc hbW.size _
    have hT : Tab (wc.alloc O) := ht.below hb2
    have hpos := hR.pos
    clear hcW hgW
    rcases hcut with ⟨rfl, hrd⟩ | ⟨v, m, rfl, rfl, rfl, hrd⟩
    · have HR : Hid (rd (l.drop p) = none) := hrd
      clear hrd
      go_wp2_with fail
      rw [← hO]
      refine (int_err _ 0 _ 0 _ l p _ hT hR HR.out).mono ?_
      rintro e w1 ⟨b, rfl, hb⟩
      have hpos1 : w1.cell? ⟨wc.heap.size, 1, none⟩ = some (.int .i64 (p : Int)) := by
        rw [hb.cell (by simp)]; exact hpos
      go_wp2
      go_ret
      exact ⟨rfl, hb2.trans (hb.mono (by simp; omega))⟩
    · have hv := (rd_some hrd).2.2.2.2.2.1
      have HR : Hid (rd (l.drop p) = some (v, m)) := hrd
      clear hrd
      go_wp2_with fail
      rw [← hO]
      refine (int_ok _ 0 _ 0 _ l p v m _ hR HR.out).mono ?_
      rintro e w1 ⟨rfl, nq, rfl⟩
      have hm := (rd_some HR.out).2.2.2.1
      have hsg : IntKind.i64.signed = true := rfl
      have hpos2 : ((wc.alloc O).setCell ⟨wc.heap.size, 0 + 1, none⟩ (.int .i64 ((p + m : Nat) : Int))).cell? ⟨wc.heap.size, 1, none⟩ = some (.int .i64 ((p : Int) + (m : Int))) := by
        rw [World.cell?_setCell_same _ _ _ hpos]
        simp
      by_cases hodd : v % 2 = 1
      · have ho : (bits BinOp.and IntKind.u64 (v : Int) 1 != 0) = true := by rw [and_one_u64 _ (by omega) (by omega)]; simp; omega
        have hn : bits BinOp.xor IntKind.i64 (-1) ((v : Int) / 2) = Lib.unzigzag v := by
          have := Lib.i64_not (v / 2) (by omega)
          rw [show ((v / 2 : Nat) : Int) = (v : Int) / 2 by omega] at this
          rw [this, Lib.unzigzag, if_neg (by omega)]
          omega
        go_wp2
        go_ret
        exact ⟨rfl, below_drewN (hbW.alloc hbW.size _) _⟩
      · have ho : (bits BinOp.and IntKind.u64 (v : Int) 1 != 0) = false := by rw [and_one_u64 _ (by omega) (by omega)]; simp; omega
        have hn : Lib.unzigzag v = (v : Int) / 2 := by
          rw [Lib.unzigzag, if_pos (by omega)]; omega
        go_wp2
        go_ret
        exact ⟨rfl, below_drewN (hbW.alloc hbW.size _) _⟩

end Go.Proofs.YbulkbguDoor
