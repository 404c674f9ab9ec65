/-
  DERIVED. THE WALKS: zzs0111aok (8) by its two ways; LawS0111AValid (3).
-/
import Derived.Test.YbulkbguFmtNode
namespace Go.Proofs.YbulkbguFmt
open Go.RowKit Go.Extern.Stop Go.Stop Go.Extern

set_option maxHeartbeats 400000 in
theorem aok_ok (n : Int) (w : World) (h1 : 1 ≤ n) (h2 : n ≤ 255) :
    Calls Ybaf.prog 8 #[.int .u64 n] w fun e w' => e = .returned (.bool true) ∧ w' = w := by
  have hd : decide (1 ≤ n) = true := by simp; omega
  go_enter Ybaf.func8, Ybaf.ntmps8
  go_wp2_with (go_at_call 11; refine (chk_ok n _ (by omega) (by omega)).mono ?_; rintro e w' ⟨rfl, rfl⟩)
  go_ret
  exact ⟨rfl, rfl⟩

set_option maxHeartbeats 400000 in
theorem aok_bad (F : Interp) (a : Addr) (s : ByteArray) (n : Int) (w : World) (hE : Env F a s w) (h0 : 0 ≤ n) (h : n = 0 ∨ 255 < n) :
    Calls Ybaf.prog 8 #[.int .u64 n] w fun e w' => e = .returned (.bool true) ∧ Below w.heap.size w w' := by
  go_enter Ybaf.func8, Ybaf.ntmps8
  go_wp2_with fail
  refine (chk_bad F a s n _ hE h0 h).mono ?_
  rintro e w1 ⟨b, t, rfl, hb, hle, hlt, ht, hv⟩
  have hE1 := hE.below hb
  have hg := hE1.glob
  rcases h with rfl | h
  · go_wp2_with (go_at_call 13; refine (is_wrap_same b 0 a _ (by assumption)).mono ?_; rintro e w' ⟨rfl, rfl⟩)
    go_ret
    exact ⟨rfl, hb⟩
  · have hd : decide (1 ≤ n) = true := by simp; omega
    have hd2 : decide (n ≤ 255) = false := by simp; omega
    go_wp2_with (go_at_call 13; refine (is_wrap_same b 0 a _ (by assumption)).mono ?_; rintro e w' ⟨rfl, rfl⟩)
    go_ret
    exact ⟨rfl, hb⟩

theorem aok_any (F : Interp) (a : Addr) (s : ByteArray) (n : Int) (w : World) (hE : Env F a s w) (h0 : 0 ≤ n) :
    Calls Ybaf.prog 8 #[.int .u64 n] w fun e w' => e = .returned (.bool true) ∧ Below w.heap.size w w' := by
  by_cases h : 1 ≤ n ∧ n ≤ 255
  · refine (aok_ok n w h.1 h.2).mono ?_
    rintro e w' ⟨rfl, rfl⟩
    exact ⟨rfl, Below.refl _ _⟩
  · exact aok_bad F a s n w hE h0 (by omega)

set_option maxHeartbeats 400000 in
theorem lawA (F : Interp) (a : Addr) (s : ByteArray) (x : Int) (w : World) (hE : Env F a s w) (h0 : 0 ≤ x) :
    Calls Ybaf.prog 3 #[.int .u64 x] w fun e w' => e = .returned (.bool true) ∧ Below w.heap.size w w' := by
  go_enter Ybaf.func3, Ybaf.ntmps3
  go_wp2_with fail
  refine (aok_any F a s _ _ hE h0).mono ?_
  rintro e w1 ⟨rfl, hb1⟩
  have hE1 := hE.below hb1
  go_wp2_with fail
  refine (aok_any F a s _ _ hE1 (by omega)).mono ?_
  rintro e w2 ⟨rfl, hb2⟩
  have hE2 := hE1.below hb2
  go_wp2_with fail
  refine (aok_any F a s _ _ hE2 (by omega)).mono ?_
  rintro e w3 ⟨rfl, hb3⟩
  have hE3 := hE2.below hb3
  go_wp2_with fail
  refine (aok_any F a s _ _ hE3 (by omega)).mono ?_
  rintro e w4 ⟨rfl, hb4⟩
  have hE4 := hE3.below hb4
  go_wp2_with fail
  refine (aok_any F a s _ _ hE4 (by omega)).mono ?_
  rintro e w5 ⟨rfl, hb5⟩
  have hE5 := hE4.below hb5
  go_wp2_with fail
  refine (aok_any F a s _ _ hE5 (by omega)).mono ?_
  rintro e w6 ⟨rfl, hb6⟩
  have hE6 := hE5.below hb6
  go_wp2_with fail
  refine (aok_any F a s _ _ hE6 (by omega)).mono ?_
  rintro e w7 ⟨rfl, hb7⟩
  have hE7 := hE6.below hb7
  go_wp2_with fail
  refine (aok_any F a s _ _ hE7 (by omega)).mono ?_
  rintro e w8 ⟨rfl, hb8⟩
  have hE8 := hE7.below hb8
  go_wp2
  go_ret
  refine ⟨rfl, ?_⟩
  have c2 := hb1.trans (hb2.mono hb1.size)
  have c3 := c2.trans (hb3.mono c2.size)
  have c4 := c3.trans (hb4.mono c3.size)
  have c5 := c4.trans (hb5.mono c4.size)
  have c6 := c5.trans (hb6.mono c5.size)
  have c7 := c6.trans (hb7.mono c6.size)
  have c8 := c7.trans (hb8.mono c7.size)
  exact c8

end Go.Proofs.YbulkbguFmt
