/-
  DERIVED. THE WALKS: zzs0123blit (7), zzs0123bpick (8), zzs0123bexpect (5).
-/
import Derived.Test.YbulkbngDoorRep
import Derived.Deep.DeepCutAuto
import Derived.Deep.RegionWith
namespace Go.Proofs.YbulkbngDoor
open Go.RowKit

def litOf (s : Int) : Int := if s < 4 then 0 else if s < 10 then s - 3 else s - 6
def pickOf (s lo hi : Int) : Int := if s < 7 then lo else hi

theorem lit_walk (s : Int) (w : World) (h0 : 0 ≤ s) (h1 : s < 12) : Calls Ybad.prog 7 #[.int .u32 s] w fun e w' => e = .returned (.int .u32 (litOf s)) ∧ w' = w := by
  by_cases a : s < 4
  · go_enter Ybad.func7, Ybad.ntmps7
    go_wp2
    go_ret
    exact ⟨by rw [show litOf s = _ from by unfold litOf; first | rw [if_pos a] | rw [if_neg (by omega), if_pos b] | rw [if_neg (by omega), if_neg (by omega)]]; rfl, rfl⟩
  · by_cases b : s < 10
    · have hw : IntKind.u32.wrap (s - 3) = s - 3 := by rw [IntKind.wrap_u32]; omega
      go_enter Ybad.func7, Ybad.ntmps7
      go_wp2
      go_ret
      exact ⟨by rw [show litOf s = _ from by unfold litOf; first | rw [if_pos a] | rw [if_neg (by omega), if_pos b] | rw [if_neg (by omega), if_neg (by omega)]]; rfl, rfl⟩
    · have hw : IntKind.u32.wrap (s - 6) = s - 6 := by rw [IntKind.wrap_u32]; omega
      go_enter Ybad.func7, Ybad.ntmps7
      go_wp2
      go_ret
      exact ⟨by rw [show litOf s = _ from by unfold litOf; first | rw [if_pos a] | rw [if_neg (by omega), if_pos b] | rw [if_neg (by omega), if_neg (by omega)]]; rfl, rfl⟩

theorem pick_walk (s lo hi : Int) (w : World) : Calls Ybad.prog 8 #[.int .u32 s, .int .u32 lo, .int .u32 hi] w fun e w' => e = .returned (.int .u32 (pickOf s lo hi)) ∧ w' = w := by
  by_cases a : s < 7
  · go_enter Ybad.func8, Ybad.ntmps8
    go_wp2
    go_ret
    exact ⟨by rw [show pickOf s lo hi = _ from by unfold pickOf; first | rw [if_pos a] | rw [if_neg (by omega)]]; rfl, rfl⟩
  · go_enter Ybad.func8, Ybad.ntmps8
    go_wp2
    go_ret
    exact ⟨by rw [show pickOf s lo hi = _ from by unfold pickOf; first | rw [if_pos a] | rw [if_neg (by omega)]]; rfl, rfl⟩

abbrev agg4 (a b c d : Int) : Value := .agg #[.int .u32 a, .int .u32 b, .int .u32 c, .int .u32 d]

set_option maxHeartbeats 1000000 in
theorem exp_lit (s r0 r1 r2 r3 len : Int) (w : World) (h0 : 0 ≤ s) (h1 : s < 12) :
    Calls Ybad.prog 5 #[.int .u32 s, agg4 r0 r1 r2 r3, .int .i64 len, .int .i64 0] w fun e w' => e = .returned (.tuple #[.int .u32 (litOf s), agg4 r0 r1 r2 r3]) ∧ Below w.heap.size w w' := by
  go_enter Ybad.func5, Ybad.ntmps5
  go_upto_region 2 with fail
  go_region_with (refine (lit_walk s _ h0 h1).mono ?_; rintro e w' ⟨rfl, rfl⟩)
  all_goals (
    go_wp2
    refine bodyPost_ret (v := .tuple #[.int .u32 (litOf s), agg4 r0 r1 r2 r3]) (by simp [results, Ybad.results5, go_sem]) rfl ⟨rfl, ?_⟩
    exact ((((Below.refl w.heap.size w).alloc (Nat.le_refl _) _).alloc (by simp) _).drew))

set_option maxHeartbeats 1000000 in
theorem exp_short (s r0 r1 r2 r3 dist : Int) (w : World) (hd : (dist == 0) = false) :
    Calls Ybad.prog 5 #[.int .u32 s, agg4 r0 r1 r2 r3, .int .i64 1, .int .i64 dist] w fun e w' => e = .returned (.tuple #[.int .u32 (pickOf s 9 11), agg4 r0 r1 r2 r3]) ∧ Below w.heap.size w w' := by
  go_enter Ybad.func5, Ybad.ntmps5
  go_upto_region 4 with fail
  go_region_with (refine (pick_walk s 9 11 _).mono ?_; rintro e w' ⟨rfl, rfl⟩)
  all_goals (
    go_wp2
    refine bodyPost_ret (v := .tuple #[.int .u32 (pickOf s 9 11), agg4 r0 r1 r2 r3]) (by simp [results, Ybad.results5, go_sem]) rfl ⟨rfl, ?_⟩
    exact ((((Below.refl w.heap.size w).alloc (Nat.le_refl _) _).alloc (by simp) _).drew))

set_option maxHeartbeats 2000000 in
theorem exp_new (s r0 r1 r2 r3 len dist d : Int) (w : World) (hd : (dist == 0) = false) (hl : (len == 1) = false) (hw : wrap64 (dist - 1) % 4294967296 = d) (b0 : (r0 == d) = false) (b1 : (r1 == d) = false) (b2 : (r2 == d) = false) (b3 : (r3 == d) = false) :
    Calls Ybad.prog 5 #[.int .u32 s, agg4 r0 r1 r2 r3, .int .i64 len, .int .i64 dist] w fun e w' => e = .returned (.tuple #[.int .u32 (pickOf s 7 10), agg4 d r0 r1 r2]) ∧ Below w.heap.size w w' := by
  go_enter Ybad.func5, Ybad.ntmps5
  go_wp2_with fail
  refine wp_loop_rounds 5 ?_
  rw [rounds_succ]
  go_wp2_with fail
  rw [rounds_succ]
  go_wp2_with fail
  rw [rounds_succ]
  go_wp2_with fail
  rw [rounds_succ]
  go_wp2_with fail
  rw [rounds_succ]
  go_upto_region 13 with fail
  go_region_with (refine (pick_walk s 7 10 _).mono ?_; rintro e w' ⟨rfl, rfl⟩)
  all_goals (
    go_wp2
    refine bodyPost_ret (v := .tuple #[.int .u32 (pickOf s 7 10), agg4 d r0 r1 r2]) (by simp [results, Ybad.results5, go_sem]) rfl ⟨rfl, ?_⟩
    exact ((((Below.refl w.heap.size w).alloc (Nat.le_refl _) _).alloc (by simp) _).drew))

set_option maxHeartbeats 2000000 in
theorem exp_rep0 (s r0 r1 r2 r3 len dist d : Int) (w : World) (hd : (dist == 0) = false) (hl : (len == 1) = false) (hw : wrap64 (dist - 1) % 4294967296 = d) (b0 : (r0 == d) = true) :
    Calls Ybad.prog 5 #[.int .u32 s, agg4 r0 r1 r2 r3, .int .i64 len, .int .i64 dist] w fun e w' => e = .returned (.tuple #[.int .u32 (pickOf s 8 11), agg4 d r1 r2 r3]) ∧ Below w.heap.size w w' := by
  go_enter Ybad.func5, Ybad.ntmps5
  go_wp2_with fail
  refine wp_loop_rounds 1 ?_
  rw [rounds_succ]
  go_wp2_with fail
  refine wp_loop_rounds 5 ?_
  rw [rounds_succ]
  go_wp2_with fail
  rw [rounds_succ]
  go_wp2_with fail
  rw [rounds_succ]
  go_wp2_with fail
  rw [rounds_succ]
  go_wp2_with fail
  rw [rounds_succ]
  go_upto_region 23 with fail
  go_region_with (refine (pick_walk s 8 11 _).mono ?_; rintro e w' ⟨rfl, rfl⟩)
  all_goals (
    go_wp2
    refine bodyPost_ret (v := .tuple #[.int .u32 (pickOf s 8 11), agg4 d r1 r2 r3]) (by simp [results, Ybad.results5, go_sem]) rfl ⟨rfl, ?_⟩
    exact (((((Below.refl w.heap.size w).alloc (Nat.le_refl _) _).alloc (by simp) _).alloc (by simp; omega) _).drew))

set_option maxHeartbeats 2000000 in
theorem exp_rep1 (s r0 r1 r2 r3 len dist d : Int) (w : World) (hd : (dist == 0) = false) (hl : (len == 1) = false) (hw : wrap64 (dist - 1) % 4294967296 = d) (b0 : (r0 == d) = false) (b1 : (r1 == d) = true) :
    Calls Ybad.prog 5 #[.int .u32 s, agg4 r0 r1 r2 r3, .int .i64 len, .int .i64 dist] w fun e w' => e = .returned (.tuple #[.int .u32 (pickOf s 8 11), agg4 d r0 r2 r3]) ∧ Below w.heap.size w w' := by
  go_enter Ybad.func5, Ybad.ntmps5
  go_wp2_with fail
  refine wp_loop_rounds 2 ?_
  rw [rounds_succ]
  go_wp2_with fail
  rw [rounds_succ]
  go_wp2_with fail
  refine wp_loop_rounds 5 ?_
  rw [rounds_succ]
  go_wp2_with fail
  rw [rounds_succ]
  go_wp2_with fail
  rw [rounds_succ]
  go_wp2_with fail
  rw [rounds_succ]
  go_wp2_with fail
  rw [rounds_succ]
  go_upto_region 23 with fail
  go_region_with (refine (pick_walk s 8 11 _).mono ?_; rintro e w' ⟨rfl, rfl⟩)
  all_goals (
    go_wp2
    refine bodyPost_ret (v := .tuple #[.int .u32 (pickOf s 8 11), agg4 d r0 r2 r3]) (by simp [results, Ybad.results5, go_sem]) rfl ⟨rfl, ?_⟩
    exact (((((Below.refl w.heap.size w).alloc (Nat.le_refl _) _).alloc (by simp) _).alloc (by simp; omega) _).drew))

set_option maxHeartbeats 2000000 in
theorem exp_rep2 (s r0 r1 r2 r3 len dist d : Int) (w : World) (hd : (dist == 0) = false) (hl : (len == 1) = false) (hw : wrap64 (dist - 1) % 4294967296 = d) (b0 : (r0 == d) = false) (b1 : (r1 == d) = false) (b2 : (r2 == d) = true) :
    Calls Ybad.prog 5 #[.int .u32 s, agg4 r0 r1 r2 r3, .int .i64 len, .int .i64 dist] w fun e w' => e = .returned (.tuple #[.int .u32 (pickOf s 8 11), agg4 d r0 r1 r3]) ∧ Below w.heap.size w w' := by
  go_enter Ybad.func5, Ybad.ntmps5
  go_wp2_with fail
  refine wp_loop_rounds 3 ?_
  rw [rounds_succ]
  go_wp2_with fail
  rw [rounds_succ]
  go_wp2_with fail
  rw [rounds_succ]
  go_wp2_with fail
  refine wp_loop_rounds 5 ?_
  rw [rounds_succ]
  go_wp2_with fail
  rw [rounds_succ]
  go_wp2_with fail
  rw [rounds_succ]
  go_wp2_with fail
  rw [rounds_succ]
  go_wp2_with fail
  rw [rounds_succ]
  go_upto_region 23 with fail
  go_region_with (refine (pick_walk s 8 11 _).mono ?_; rintro e w' ⟨rfl, rfl⟩)
  all_goals (
    go_wp2
    refine bodyPost_ret (v := .tuple #[.int .u32 (pickOf s 8 11), agg4 d r0 r1 r3]) (by simp [results, Ybad.results5, go_sem]) rfl ⟨rfl, ?_⟩
    exact (((((Below.refl w.heap.size w).alloc (Nat.le_refl _) _).alloc (by simp) _).alloc (by simp; omega) _).drew))

set_option maxHeartbeats 2000000 in
theorem exp_rep3 (s r0 r1 r2 r3 len dist d : Int) (w : World) (hd : (dist == 0) = false) (hl : (len == 1) = false) (hw : wrap64 (dist - 1) % 4294967296 = d) (b0 : (r0 == d) = false) (b1 : (r1 == d) = false) (b2 : (r2 == d) = false) (b3 : (r3 == d) = true) :
    Calls Ybad.prog 5 #[.int .u32 s, agg4 r0 r1 r2 r3, .int .i64 len, .int .i64 dist] w fun e w' => e = .returned (.tuple #[.int .u32 (pickOf s 8 11), agg4 d r0 r1 r2]) ∧ Below w.heap.size w w' := by
  go_enter Ybad.func5, Ybad.ntmps5
  go_wp2_with fail
  refine wp_loop_rounds 4 ?_
  rw [rounds_succ]
  go_wp2_with fail
  rw [rounds_succ]
  go_wp2_with fail
  rw [rounds_succ]
  go_wp2_with fail
  rw [rounds_succ]
  go_wp2_with fail
  refine wp_loop_rounds 5 ?_
  rw [rounds_succ]
  go_wp2_with fail
  rw [rounds_succ]
  go_wp2_with fail
  rw [rounds_succ]
  go_wp2_with fail
  rw [rounds_succ]
  go_wp2_with fail
  rw [rounds_succ]
  go_upto_region 23 with fail
  go_region_with (refine (pick_walk s 8 11 _).mono ?_; rintro e w' ⟨rfl, rfl⟩)
  all_goals (
    go_wp2
    refine bodyPost_ret (v := .tuple #[.int .u32 (pickOf s 8 11), agg4 d r0 r1 r2]) (by simp [results, Ybad.results5, go_sem]) rfl ⟨rfl, ?_⟩
    exact (((((Below.refl w.heap.size w).alloc (Nat.le_refl _) _).alloc (by simp) _).alloc (by simp; omega) _).drew))

end Go.Proofs.YbulkbngDoor
