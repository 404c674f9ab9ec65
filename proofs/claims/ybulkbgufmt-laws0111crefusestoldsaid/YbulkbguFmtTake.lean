/-
  DERIVED. THE WALKS: (*Reader).Count (31), Take (45).
-/
import Derived.Test.YbulkbguFmtMoved
import Derived.Test.YbulkbguFmtTag
import Derived.Deep.Cut
namespace Go.Proofs.YbulkbguFmt
open Go.RowKit Go.Extern.Stop Go.Stop Go.Extern

abbrev tupI : Value → Value := fun v => .tuple #[.int .i64 0, v]

theorem wf_i64 (n : Nat) (h : n ≤ 9223372036854775807) : (Lit.int .i64 (n : Int)).wf = true := by
  simp [Lit.wf, IntKind.min, IntKind.max, IntKind.signed, IntKind.bits]; omega
theorem wf_u64 (n : Nat) (h : n < 18446744073709551616) : (Lit.int .u64 (n : Int)).wf = true := by
  simp [Lit.wf, IntKind.min, IntKind.max, IntKind.signed, IntKind.bits]; omega

set_option maxHeartbeats 800000 in
theorem count_no (F : Interp) (a : Addr) (s : ByteArray) (B r ro g o cap : Nat) (l : List UInt8) (p : Nat) (w : World) (hE : Base F a s B w) (hR : Reads r ro g o cap l p w) (h : rd (l.drop p) = none) :
    Calls Ybaf.prog 31 #[.pointer (some ⟨r, ro, none⟩), .int .i64 3] w (ErrK r tupI w) := by
  have hc := hR.pos
  go_enter Ybaf.func31, Ybaf.ntmps31
  go_wp2_with (go_at_call 34; refine (uv_err r ro g o cap l p _ hE.tab hR h).mono ?_; rintro e w1 ⟨b, rfl, hb⟩)
  go_ret2
  exact ⟨111, b, Or.inl rfl, rfl, Kept.of_below hb⟩

set_option maxHeartbeats 800000 in
theorem count_ok (r ro g o cap : Nat) (l : List UInt8) (p v k : Nat) (w : World) (hR : Reads r ro g o cap l p w) (h : rd (l.drop p) = some (v, k)) (hv : v ≤ (l.length - (p + k)) / 3) :
    Calls Ybaf.prog 31 #[.pointer (some ⟨r, ro, none⟩), .int .i64 3] w fun e w' => e = .returned (.tuple #[.int .i64 v, .nilIface]) ∧ Moved r ro (p + k) w w' := by
  have hc := hR.pos
  obtain ⟨_, _, hk1, hk10, hkl, hv64, _⟩ := rd_some h
  rw [List.length_drop] at hkl
  have hle := hR.le
  have hbig := hR.big
  have hfit := hR.fits
  go_enter Ybaf.func31, Ybaf.ntmps31
  go_wp2_with (go_at_call 34; refine (uvM_ok r ro g o cap l p v k _ hR h).mono ?_; rintro e w1 ⟨rfl, hm⟩)
  have d0 : w1.cell? ⟨r, ro, none⟩ = some (.slice (some ⟨g, o, none⟩) l.length cap) := by rw [hm.data]; exact hR.data
  have d1 : w1.cell? ⟨r, ro + 1, none⟩ = some (.int .i64 ((p : Int) + (k : Int))) := hm.pos
  clear hc
  have hq : ((l.length : Int) - ((p : Int) + (k : Int))) / 3 = (((l.length - (p + k)) / 3 : Nat) : Int) := by omega
  have hvi : ¬ (((l.length - (p + k)) / 3 : Nat) : Int) < (v : Int) := by omega
  go_quiet (fail)
  go_wp2
  go_ret2
  exact ⟨rfl, hm.drewN _⟩

theorem nat_mod (v : Nat) : ((v : Int) % 18446744073709551616).toNat = v % 18446744073709551616 := by omega

theorem sizeC' (F : Interp) (v n : Nat) (hv : v < 18446744073709551616) (hn : n ≤ 9223372036854775807) :
    (FmtStop.textOf (F.told "fmt.Sprintf" [[99, 111, 117, 110, 116, 32, 37, 100, 44, 32, 109, 111, 114, 101, 32, 116, 104, 97, 110, 32, 116, 104, 101, 32, 37, 100, 32, 98, 121, 116, 101, 115, 32, 108, 101, 102, 116, 32, 99, 97, 110, 32, 104, 111, 108, 100], Ybaf.shape22, digits 8 (v % 18446744073709551616), Ybaf.shape3, digits 8 (n % 18446744073709551616)] 0)).size ≤ 1000 := by
  have := sizeC F v n (wf_u64 v hv) (wf_i64 n hn)
  rw [readC, nat_mod, nat_mod] at this
  exact this
theorem sizeD' (F : Interp) (v n : Nat) (hv : v < 18446744073709551616) (hn : n ≤ 9223372036854775807) :
    (FmtStop.textOf (F.told "fmt.Sprintf" [[108, 101, 110, 103, 116, 104, 32, 37, 100, 44, 32, 109, 111, 114, 101, 32, 116, 104, 97, 110, 32, 116, 104, 101, 32, 37, 100, 32, 98, 121, 116, 101, 115, 32, 108, 101, 102, 116], Ybaf.shape22, digits 8 (v % 18446744073709551616), Ybaf.shape3, digits 8 (n % 18446744073709551616)] 0)).size ≤ 1000 := by
  have := sizeD F v n (wf_u64 v hv) (wf_i64 n hn)
  rw [readD, nat_mod, nat_mod] at this
  exact this

/-- Count behind its Sprintf: the position has moved, two blocks are new. -/
theorem errAt_moved {r ro q : Nat} {w w1 : World} (n : Int) (s : ByteArray) (k : Nat) (o : Obj) (hm : Moved r ro q w w1) (ht : Tab w1) (h0 : 0 ≤ n) (h1 : n ≤ 9223372036854775807) (hs : s.size ≤ 1000) :
    Calls Ybaf.prog 33 #[.int .i64 n, .string s] ((w1.drewN k).alloc o).drew (ErrK r id w) := by
  refine (errAt_spr n s w1 k o ht h0 h1 hs).mono ?_
  intro e w2 h
  exact h.toK hm.kept

set_option maxHeartbeats 400000 in
theorem count_big (F : Interp) (a : Addr) (s : ByteArray) (B r ro g o cap : Nat) (l : List UInt8) (p v k : Nat) (w : World) (hE : Base F a s B w) (hB : B ≤ r) (hR : Reads r ro g o cap l p w) (h : rd (l.drop p) = some (v, k)) (hv : (l.length - (p + k)) / 3 < v) :
    Calls Ybaf.prog 31 #[.pointer (some ⟨r, ro, none⟩), .int .i64 3] w (ErrK r tupI w) := by
  have hc := hR.pos
  obtain ⟨_, _, hk1, hk10, hkl, hv64, _⟩ := rd_some h
  rw [List.length_drop] at hkl
  have hle := hR.le
  have hbig := hR.big
  have hfit := hR.fits
  obtain ⟨left, hleft⟩ : ∃ left : Nat, left = l.length - (p + k) := ⟨_, rfl⟩
  rw [← hleft] at hv
  have hl63 : left ≤ 9223372036854775807 := by omega
  go_enter Ybaf.func31, Ybaf.ntmps31
  go_wp2_with (go_at_call 34; refine (uvM_ok r ro g o cap l p v k _ hR h).mono ?_; rintro e w1 ⟨rfl, hm⟩)
  have d0 : w1.cell? ⟨r, ro, none⟩ = some (.slice (some ⟨g, o, none⟩) l.length cap) := by rw [hm.data]; exact hR.data
  have d1 : w1.cell? ⟨r, ro + 1, none⟩ = some (.int .i64 ((p : Int) + (k : Int))) := hm.pos
  have hF1 : F.told.answers w1.tape := by rw [hm.tape]; exact hE.env.ans
  have hF' := answers_open hF1
  have ht1 : Tab w1 := (hE.below (hm.below hB)).tab
  clear hc
  have hq0 : (l.length : Int) - ((p : Int) + (k : Int)) = (left : Int) := by omega
  have hvi : ((left : Int)) / 3 < (v : Int) := by omega
  have hcz0 : ∀ k, ((w1.drewN k).alloc (.cells #[.iface 22 (.int .u64 (v : Int)), .iface 3 (.int .i64 (left : Int))] 20)).cell? ⟨w1.heap.size, 0, none⟩ = some (.iface 22 (.int .u64 (v : Int))) := fun k => new_drewN w1 k _ 20 0
  have hcz1 : ∀ k, ((w1.drewN k).alloc (.cells #[.iface 22 (.int .u64 (v : Int)), .iface 3 (.int .i64 (left : Int))] 20)).cell? ⟨w1.heap.size, 1, none⟩ = some (.iface 3 (.int .i64 (left : Int))) := fun k => new_drewN w1 k _ 20 1
  clear hleft
  go_quiet (fail)
  go_upto_region 7 with fail
  go_wp2_with (go_at_call 33; refine (errAt_moved p _ _ _ hm ht1 (by omega) (by omega) ?_).mono ?_; exact sizeC' F v left hv64 hl63; rintro e w2 ⟨u, b, hu, rfl, hb⟩)
  go_ret2
  exact ⟨u, b, hu, rfl, hb⟩

theorem ret_slice {x : Option Addr} {a b c : Nat} (h : a = b) : Ending.returned (.tuple #[.slice x a c, .nilIface]) = .returned (.tuple #[.slice x b c, .nilIface]) := by rw [h]

theorem Moved.of_set' {r ro p' : Nat} {w : World} {v : Value} (h : w.cell? ⟨r, ro + 1, none⟩ = some v) (nq : Nat) : Moved r ro p' w ((w.drewN nq).setCell ⟨r, ro + 1, none⟩ (.int .i64 (p' : Int))) :=
  Moved.of_set h nq

abbrev tupS : Value → Value := fun v => .tuple #[.slice none 0 0, v]

set_option maxHeartbeats 800000 in
theorem take_ok (r ro g o cap : Nat) (l : List UInt8) (p at' n : Nat) (w : World) (hR : Reads r ro g o cap l p w) (h1 : 1 ≤ n) (hn : n ≤ l.length - p) :
    Calls Ybaf.prog 45 #[.pointer (some ⟨r, ro, none⟩), .int .i64 at', .int .u64 n] w fun e w' => e = .returned (.tuple #[.slice (some ⟨g, o + p, none⟩) n (cap - p), .nilIface]) ∧ Moved r ro (p + n) w w' := by
  obtain ⟨c0, c1, c2, c3, hle, c5, c6⟩ := hR
  obtain ⟨left, hleft⟩ : ∃ left : Nat, left = l.length - p := ⟨_, rfl⟩
  rw [← hleft] at hn
  have hq0 : (l.length : Int) - (p : Int) = (left : Int) := by omega
  have hni : ¬ (left : Int) < (n : Int) := by omega
  have hw1 : IntKind.i64.wrap ((p : Int) + (n : Int)) = (p : Int) + (n : Int) := by rw [IntKind.wrap_i64]; omega
  have hsb : (p : Int) + (n : Int) ≤ (cap : Int) := by omega
  have hsb2 : (p : Int) ≤ (p : Int) + (n : Int) := by omega
  have hpc : p < cap := by omega
  have hlc : left ≤ cap := by omega
  clear c3 hleft
  go_enter Ybaf.func45, Ybaf.ntmps45
  go_wp2
  go_quiet (fail)
  go_wp2
  go_quiet (fail)
  go_wp2
  go_ret2
  exact ⟨ret_slice (Nat.add_sub_cancel_left p n), Moved.of_set' c1 _⟩

set_option maxHeartbeats 800000 in
theorem take_no (F : Interp) (a : Addr) (s : ByteArray) (B r ro g o cap : Nat) (l : List UInt8) (p at' n : Nat) (w : World) (hE : Base F a s B w) (hR : Reads r ro g o cap l p w) (hn : l.length - p < n) (hn64 : n < 18446744073709551616) (hat : at' ≤ 9223372036854775807) :
    Calls Ybaf.prog 45 #[.pointer (some ⟨r, ro, none⟩), .int .i64 at', .int .u64 n] w (ErrK r tupS w) := by
  obtain ⟨c0, c1, c2, c3, hle, c5, c6⟩ := hR
  obtain ⟨left, hleft⟩ : ∃ left : Nat, left = l.length - p := ⟨_, rfl⟩
  rw [← hleft] at hn
  have hq0 : (l.length : Int) - (p : Int) = (left : Int) := by omega
  have hni : (left : Int) < (n : Int) := by omega
  have hl63 : left ≤ 9223372036854775807 := by omega
  have hF' := answers_open hE.env.ans
  have ht := hE.tab
  have hcz0 : ∀ k, ((w.drewN k).alloc (.cells #[.iface 22 (.int .u64 (n : Int)), .iface 3 (.int .i64 (left : Int))] 20)).cell? ⟨w.heap.size, 0, none⟩ = some (.iface 22 (.int .u64 (n : Int))) := fun k => new_drewN w k _ 20 0
  have hcz1 : ∀ k, ((w.drewN k).alloc (.cells #[.iface 22 (.int .u64 (n : Int)), .iface 3 (.int .i64 (left : Int))] 20)).cell? ⟨w.heap.size, 1, none⟩ = some (.iface 3 (.int .i64 (left : Int))) := fun k => new_drewN w k _ 20 1
  clear c3 hleft
  go_enter Ybaf.func45, Ybaf.ntmps45
  go_wp2
  go_quiet (fail)
  go_upto_region 3 with fail
  go_wp2_with (go_at_call 33; refine (errAt_spr at' _ w _ _ ht (by omega) (by omega) ?_).mono ?_; exact sizeD' F n left hn64 hl63; rintro e w2 ⟨b, rfl, hb⟩)
  go_ret2
  exact ⟨111, b, Or.inl rfl, rfl, Kept.of_below hb⟩

end Go.Proofs.YbulkbguFmt
