/-
  DERIVED. THE WALK: repIndex (6): the first place that holds d, or -1.
-/
import Derived.Test.YbulkbngDoorRows
import Derived.WalkKit
import Derived.BigQuiet
import Derived.Deep.LoopGhost
namespace Go.Proofs.YbulkbngDoor
open Go.RowKit

/-- The first place among r0 .. r3 that holds d. -/
def firstAt (r0 r1 r2 r3 d : Int) : Int := if r0 = d then 0 else if r1 = d then 1 else if r2 = d then 2 else if r3 = d then 3 else -1

set_option maxHeartbeats 1000000 in
theorem rep_walk (b o : Nat) (r0 r1 r2 r3 d : Int) (w : World) (h0 : w.cell? ⟨b, o, none⟩ = some (.int .u32 r0)) (h1 : w.cell? ⟨b, o + 1, none⟩ = some (.int .u32 r1)) (h2 : w.cell? ⟨b, o + 2, none⟩ = some (.int .u32 r2)) (h3 : w.cell? ⟨b, o + 3, none⟩ = some (.int .u32 r3)) :
    Calls Ybad.prog 6 #[.pointer (some ⟨b, o, none⟩), .int .u32 d] w fun e w' => e = .returned (.int .i64 (firstAt r0 r1 r2 r3 d)) ∧ ∃ n, w' = w.drewN n := by
  have q0 : ∀ n, (w.drewN n).cell? ⟨b, o, none⟩ = some (.int .u32 r0) := fun _ => h0
  have q1 : ∀ n, (w.drewN n).cell? ⟨b, o + 1, none⟩ = some (.int .u32 r1) := fun _ => h1
  have q2 : ∀ n, (w.drewN n).cell? ⟨b, o + 2, none⟩ = some (.int .u32 r2) := fun _ => h2
  have q3 : ∀ n, (w.drewN n).cell? ⟨b, o + 3, none⟩ = some (.int .u32 r3) := fun _ => h3
  by_cases e0 : r0 = d
  · have b0 : (r0 == d) = true := by simpa using e0
    have hres : firstAt r0 r1 r2 r3 d = 0 := by unfold firstAt; simp [e0]
    clear e0 h0 h1 h2 h3
    go_enter Ybad.func6, Ybad.ntmps6
    go_wp2
    refine wp_loop_rounds 1 ?_
    rw [rounds_succ]
    go_wp2
    go_quiet (fail)
    go_wp2
    go_ret
    exact ⟨by rw [hres]; rfl, _, rfl⟩
  have b0 : (r0 == d) = false := by simpa using e0
  by_cases e1 : r1 = d
  · have b1 : (r1 == d) = true := by simpa using e1
    have hres : firstAt r0 r1 r2 r3 d = 1 := by unfold firstAt; simp [e0, e1]
    clear e0 e1 h0 h1 h2 h3
    go_enter Ybad.func6, Ybad.ntmps6
    go_wp2
    refine wp_loop_rounds 2 ?_
    rw [rounds_succ]
    go_wp2
    go_quiet (fail)
    go_wp2
    rw [rounds_succ]
    go_wp2
    go_quiet (fail)
    go_wp2
    go_ret
    exact ⟨by rw [hres]; rfl, _, rfl⟩
  have b1 : (r1 == d) = false := by simpa using e1
  by_cases e2 : r2 = d
  · have b2 : (r2 == d) = true := by simpa using e2
    have hres : firstAt r0 r1 r2 r3 d = 2 := by unfold firstAt; simp [e0, e1, e2]
    clear e0 e1 e2 h0 h1 h2 h3
    go_enter Ybad.func6, Ybad.ntmps6
    go_wp2
    refine wp_loop_rounds 3 ?_
    rw [rounds_succ]
    go_wp2
    go_quiet (fail)
    go_wp2
    rw [rounds_succ]
    go_wp2
    go_quiet (fail)
    go_wp2
    rw [rounds_succ]
    go_wp2
    go_quiet (fail)
    go_wp2
    go_ret
    exact ⟨by rw [hres]; rfl, _, rfl⟩
  have b2 : (r2 == d) = false := by simpa using e2
  by_cases e3 : r3 = d
  · have b3 : (r3 == d) = true := by simpa using e3
    have hres : firstAt r0 r1 r2 r3 d = 3 := by unfold firstAt; simp [e0, e1, e2, e3]
    clear e0 e1 e2 e3 h0 h1 h2 h3
    go_enter Ybad.func6, Ybad.ntmps6
    go_wp2
    refine wp_loop_rounds 4 ?_
    rw [rounds_succ]
    go_wp2
    go_quiet (fail)
    go_wp2
    rw [rounds_succ]
    go_wp2
    go_quiet (fail)
    go_wp2
    rw [rounds_succ]
    go_wp2
    go_quiet (fail)
    go_wp2
    rw [rounds_succ]
    go_wp2
    go_quiet (fail)
    go_wp2
    go_ret
    exact ⟨by rw [hres]; rfl, _, rfl⟩
  have b3 : (r3 == d) = false := by simpa using e3
  have hres : firstAt r0 r1 r2 r3 d = -1 := by unfold firstAt; simp [e0, e1, e2, e3]
  clear e0 e1 e2 e3 h0 h1 h2 h3
  go_enter Ybad.func6, Ybad.ntmps6
  go_wp2
  refine wp_loop_rounds 5 ?_
  rw [rounds_succ]
  go_wp2
  go_quiet (fail)
  go_wp2
  rw [rounds_succ]
  go_wp2
  go_quiet (fail)
  go_wp2
  rw [rounds_succ]
  go_wp2
  go_quiet (fail)
  go_wp2
  rw [rounds_succ]
  go_wp2
  go_quiet (fail)
  go_wp2
  rw [rounds_succ]
  go_wp2
  go_ret
  exact ⟨by rw [hres]; rfl, _, rfl⟩

end Go.Proofs.YbulkbngDoor
