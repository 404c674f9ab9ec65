/-
  DERIVED. THE WALK: (*parser).arrive (4): a repeated match, a new match.
-/
import Derived.Test.YbulkbngDoorArr
namespace Go.Proofs.YbulkbngDoor
open Go.RowKit Go.Stop

theorem Left.drew {g : Nat} {s r0 r1 r2 r3 : Int} {w w' : World} (h : Left g s r0 r1 r2 r3 w w') : Left g s r0 r1 r2 r3 w w'.drew :=
  ⟨h.state, h.rep0, h.rep1, h.rep2, h.rep3, h.other, h.os, h.tape, h.output, h.size, h.block⟩

set_option maxHeartbeats 2000000 in
theorem arr_rep00 (pb g s : Nat) (r0 r1 r2 r3 len dist t : Int) (w : World)
    (hP : w.cell? ⟨pb, 9502, none⟩ = some (.slice (some ⟨g, 0, none⟩) 2 2))
    (c10 : w.cell? ⟨g, 10, none⟩ = some (.int .i64 0)) (c11 : w.cell? ⟨g, 11, none⟩ = some (.int .i64 len)) (c12 : w.cell? ⟨g, 12, none⟩ = some (.int .i64 dist))
    (hs : s < 12) (d4 : w.cell? ⟨g, 4, none⟩ = some (.int .u32 s)) (d5 : w.cell? ⟨g, 5, none⟩ = some (.int .u32 r0)) (d6 : w.cell? ⟨g, 6, none⟩ = some (.int .u32 r1)) (d7 : w.cell? ⟨g, 7, none⟩ = some (.int .u32 r2)) (d8 : w.cell? ⟨g, 8, none⟩ = some (.int .u32 r3))
    (hcells : ∀ j, j < 18 → ∃ v, w.cell? ⟨g, j, none⟩ = some v) (hfree : ∀ j, w.frozen? ⟨g, j, none⟩ = false) (d : Int) (hd : (dist == 0) = false) (hl : (len == 1) = false) (hw : wrap64 (dist - 1) % 4294967296 = d) (hk : firstAt r0 r1 r2 r3 d = 0) (ht : w.cell? ⟨2, s, none⟩ = some (.int .u32 t)) :
    Calls Ybad.prog 4 #[.pointer (some ⟨pb, 0, none⟩), .int .i64 1] w fun e w' => e = .returned (.tuple #[]) ∧ Left g t d r1 r2 r3 w w' := by
  have hsi : (s : Int) < 12 := by omega
  have a4 : ∀ k o, ((w.drewN k).alloc o).cell? ⟨g, 4, none⟩ = some (.int .u32 s) := fun k o => cell?_alloc_old (W := w.drewN k) o d4
  have a5 : ∀ k o, ((w.drewN k).alloc o).cell? ⟨g, 5, none⟩ = some (.int .u32 r0) := fun k o => cell?_alloc_old (W := w.drewN k) o d5
  have a6 : ∀ k o, ((w.drewN k).alloc o).cell? ⟨g, 6, none⟩ = some (.int .u32 r1) := fun k o => cell?_alloc_old (W := w.drewN k) o d6
  have a7 : ∀ k o, ((w.drewN k).alloc o).cell? ⟨g, 7, none⟩ = some (.int .u32 r2) := fun k o => cell?_alloc_old (W := w.drewN k) o d7
  have a8 : ∀ k o, ((w.drewN k).alloc o).cell? ⟨g, 8, none⟩ = some (.int .u32 r3) := fun k o => cell?_alloc_old (W := w.drewN k) o d8
  have a11 : ∀ k o, ((w.drewN k).alloc o).cell? ⟨g, 11, none⟩ = some (.int .i64 len) := fun k o => cell?_alloc_old (W := w.drewN k) o c11
  have a12 : ∀ k o, ((w.drewN k).alloc o).cell? ⟨g, 12, none⟩ = some (.int .i64 dist) := fun k o => cell?_alloc_old (W := w.drewN k) o c12
  obtain ⟨v13, e13⟩ := hcells 13 (by omega)
  have x13 : ∀ k o, ((w.drewN k).alloc o).cell? ⟨g, 13, none⟩ = some v13 := fun k o => cell?_alloc_old (W := w.drewN k) o e13
  have f13 : ∀ k c, ((w.drewN k).alloc (.cells c 23)).frozen? ⟨g, 13, none⟩ = false := fun k c => (frozen?_alloc_cells (w.drewN k) c 23 _).trans (hfree 13)
  obtain ⟨v14, e14⟩ := hcells 14 (by omega)
  have x14 : ∀ k o, ((w.drewN k).alloc o).cell? ⟨g, 14, none⟩ = some v14 := fun k o => cell?_alloc_old (W := w.drewN k) o e14
  have f14 : ∀ k c, ((w.drewN k).alloc (.cells c 23)).frozen? ⟨g, 14, none⟩ = false := fun k c => (frozen?_alloc_cells (w.drewN k) c 23 _).trans (hfree 14)
  obtain ⟨v15, e15⟩ := hcells 15 (by omega)
  have x15 : ∀ k o, ((w.drewN k).alloc o).cell? ⟨g, 15, none⟩ = some v15 := fun k o => cell?_alloc_old (W := w.drewN k) o e15
  have f15 : ∀ k c, ((w.drewN k).alloc (.cells c 23)).frozen? ⟨g, 15, none⟩ = false := fun k c => (frozen?_alloc_cells (w.drewN k) c 23 _).trans (hfree 15)
  obtain ⟨v16, e16⟩ := hcells 16 (by omega)
  have x16 : ∀ k o, ((w.drewN k).alloc o).cell? ⟨g, 16, none⟩ = some v16 := fun k o => cell?_alloc_old (W := w.drewN k) o e16
  have f16 : ∀ k c, ((w.drewN k).alloc (.cells c 23)).frozen? ⟨g, 16, none⟩ = false := fun k c => (frozen?_alloc_cells (w.drewN k) c 23 _).trans (hfree 16)
  obtain ⟨v17, e17⟩ := hcells 17 (by omega)
  have x17 : ∀ k o, ((w.drewN k).alloc o).cell? ⟨g, 17, none⟩ = some v17 := fun k o => cell?_alloc_old (W := w.drewN k) o e17
  have f17 : ∀ k c, ((w.drewN k).alloc (.cells c 23)).frozen? ⟨g, 17, none⟩ = false := fun k c => (frozen?_alloc_cells (w.drewN k) c 23 _).trans (hfree 17)
  have n0 : ∀ k c j, ((w.drewN k).alloc (.cells c 23)).cell? ⟨w.heap.size, j, none⟩ = c[j]? := fun k c j => World.cell?_alloc_at (w := w.drewN k) c 23 _ j rfl
  have n1 : ∀ k c j v, ((w.drewN k).alloc (.cells c 23)).setCell ⟨w.heap.size, j, none⟩ v = (w.drewN k).alloc (.cells (c.setIfInBounds j v) 23) := fun k c j v => World.setCell_alloc_at (w := w.drewN k) c 23 _ j v rfl
  have n2 : ∀ k c j, ((w.drewN k).alloc (.cells c 23)).frozen? ⟨w.heap.size, j, none⟩ = false := fun k c j => World.frozen?_alloc_at (w := w.drewN k) c 23 _ j rfl
  have at0 : ∀ k o, ((w.drewN k).alloc o).cell? ⟨2, s, none⟩ = some (.int .u32 t) := fun k o => cell?_alloc_old (W := w.drewN k) o ht
  have hcp : ∀ m, (Builtin.copy_ #[28, 28] 3 #[.slice (some ⟨w.heap.size, 1, none⟩) 0 3, .slice (some ⟨w.heap.size, 0, none⟩) 0 4]).run Ybad.prog ((w.drewN m).alloc (.cells #[.int .u32 r0, .int .u32 r1, .int .u32 r2, .int .u32 r3] 23)) = .ok (.int .i64 0) ((w.drewN m).alloc (.cells #[.int .u32 r0, .int .u32 r1, .int .u32 r2, .int .u32 r3] 23)) := fun m =>
    run_copy_none (P := Ybad.prog) _ 28 28 3 22 _ _ 0 3 0 4 Ybad.underlying28 Ybad.size22 rfl
  have hcp2 : ∀ m, (Builtin.copy_ #[28, 28] 3 #[.slice (some ⟨w.heap.size, 1, none⟩) 0 3, .slice (some ⟨w.heap.size, 0, none⟩) 0 4]).run Ybad.prog ((w.drewN m).alloc (.cells #[.int .u32 r0, .int .u32 r1, .int .u32 r2, .int .u32 r3] 23)).drew = .ok (.int .i64 0) ((w.drewN m).alloc (.cells #[.int .u32 r0, .int .u32 r1, .int .u32 r2, .int .u32 r3] 23)).drew := fun m => hcp (m + 1)
  have HC : Hid (∀ j, j < 18 → ∃ v, w.cell? ⟨g, j, none⟩ = some v) := hcells
  have hg : g < w.heap.size := World.block_lt_of_cell? _ _ c10
  clear hcells
  clear hfree e13 e14 e15 e16 e17
  go_enter Ybad.func4, Ybad.ntmps4
  go_upto_region 1 with fail
  go_quiet (fail)
  go_upto_region 2 with fail
  go_region
  go_wp2_with fail
  refine (rep_walk w.heap.size 0 r0 r1 r2 r3 d _ (n0 _ _ 0) (n0 _ _ 1) (n0 _ _ 2) (n0 _ _ 3)).mono ?_
  rintro e w1 ⟨rfl, n, rfl⟩
  rw [hk, alloc_drewN']
  go_upto_region 6 with fail
  go_region
  go_wp2
  go_end0
  exact ⟨rfl, (left_of ((below_drewN (Below.refl _ _) _).alloc (Nat.le_refl _) _) hg HC.out (set1 _ _ _ _) (set1 _ _ _ _) (set1 _ _ _ _) (set1 _ _ _ _) (set1 _ _ _ _)).drew⟩

set_option maxHeartbeats 2000000 in
theorem arr_rep10 (pb g s : Nat) (r0 r1 r2 r3 len dist t : Int) (w : World)
    (hP : w.cell? ⟨pb, 9502, none⟩ = some (.slice (some ⟨g, 0, none⟩) 2 2))
    (c10 : w.cell? ⟨g, 10, none⟩ = some (.int .i64 0)) (c11 : w.cell? ⟨g, 11, none⟩ = some (.int .i64 len)) (c12 : w.cell? ⟨g, 12, none⟩ = some (.int .i64 dist))
    (hs : s < 12) (d4 : w.cell? ⟨g, 4, none⟩ = some (.int .u32 s)) (d5 : w.cell? ⟨g, 5, none⟩ = some (.int .u32 r0)) (d6 : w.cell? ⟨g, 6, none⟩ = some (.int .u32 r1)) (d7 : w.cell? ⟨g, 7, none⟩ = some (.int .u32 r2)) (d8 : w.cell? ⟨g, 8, none⟩ = some (.int .u32 r3))
    (hcells : ∀ j, j < 18 → ∃ v, w.cell? ⟨g, j, none⟩ = some v) (hfree : ∀ j, w.frozen? ⟨g, j, none⟩ = false) (d : Int) (hd : (dist == 0) = false) (hl : (len == 1) = false) (hw : wrap64 (dist - 1) % 4294967296 = d) (hk : firstAt r0 r1 r2 r3 d = 1) (ht : w.cell? ⟨2, s, none⟩ = some (.int .u32 t)) :
    Calls Ybad.prog 4 #[.pointer (some ⟨pb, 0, none⟩), .int .i64 1] w fun e w' => e = .returned (.tuple #[]) ∧ Left g t d r0 r2 r3 w w' := by
  have hsi : (s : Int) < 12 := by omega
  have a4 : ∀ k o, ((w.drewN k).alloc o).cell? ⟨g, 4, none⟩ = some (.int .u32 s) := fun k o => cell?_alloc_old (W := w.drewN k) o d4
  have a5 : ∀ k o, ((w.drewN k).alloc o).cell? ⟨g, 5, none⟩ = some (.int .u32 r0) := fun k o => cell?_alloc_old (W := w.drewN k) o d5
  have a6 : ∀ k o, ((w.drewN k).alloc o).cell? ⟨g, 6, none⟩ = some (.int .u32 r1) := fun k o => cell?_alloc_old (W := w.drewN k) o d6
  have a7 : ∀ k o, ((w.drewN k).alloc o).cell? ⟨g, 7, none⟩ = some (.int .u32 r2) := fun k o => cell?_alloc_old (W := w.drewN k) o d7
  have a8 : ∀ k o, ((w.drewN k).alloc o).cell? ⟨g, 8, none⟩ = some (.int .u32 r3) := fun k o => cell?_alloc_old (W := w.drewN k) o d8
  have a11 : ∀ k o, ((w.drewN k).alloc o).cell? ⟨g, 11, none⟩ = some (.int .i64 len) := fun k o => cell?_alloc_old (W := w.drewN k) o c11
  have a12 : ∀ k o, ((w.drewN k).alloc o).cell? ⟨g, 12, none⟩ = some (.int .i64 dist) := fun k o => cell?_alloc_old (W := w.drewN k) o c12
  obtain ⟨v13, e13⟩ := hcells 13 (by omega)
  have x13 : ∀ k o, ((w.drewN k).alloc o).cell? ⟨g, 13, none⟩ = some v13 := fun k o => cell?_alloc_old (W := w.drewN k) o e13
  have f13 : ∀ k c, ((w.drewN k).alloc (.cells c 23)).frozen? ⟨g, 13, none⟩ = false := fun k c => (frozen?_alloc_cells (w.drewN k) c 23 _).trans (hfree 13)
  obtain ⟨v14, e14⟩ := hcells 14 (by omega)
  have x14 : ∀ k o, ((w.drewN k).alloc o).cell? ⟨g, 14, none⟩ = some v14 := fun k o => cell?_alloc_old (W := w.drewN k) o e14
  have f14 : ∀ k c, ((w.drewN k).alloc (.cells c 23)).frozen? ⟨g, 14, none⟩ = false := fun k c => (frozen?_alloc_cells (w.drewN k) c 23 _).trans (hfree 14)
  obtain ⟨v15, e15⟩ := hcells 15 (by omega)
  have x15 : ∀ k o, ((w.drewN k).alloc o).cell? ⟨g, 15, none⟩ = some v15 := fun k o => cell?_alloc_old (W := w.drewN k) o e15
  have f15 : ∀ k c, ((w.drewN k).alloc (.cells c 23)).frozen? ⟨g, 15, none⟩ = false := fun k c => (frozen?_alloc_cells (w.drewN k) c 23 _).trans (hfree 15)
  obtain ⟨v16, e16⟩ := hcells 16 (by omega)
  have x16 : ∀ k o, ((w.drewN k).alloc o).cell? ⟨g, 16, none⟩ = some v16 := fun k o => cell?_alloc_old (W := w.drewN k) o e16
  have f16 : ∀ k c, ((w.drewN k).alloc (.cells c 23)).frozen? ⟨g, 16, none⟩ = false := fun k c => (frozen?_alloc_cells (w.drewN k) c 23 _).trans (hfree 16)
  obtain ⟨v17, e17⟩ := hcells 17 (by omega)
  have x17 : ∀ k o, ((w.drewN k).alloc o).cell? ⟨g, 17, none⟩ = some v17 := fun k o => cell?_alloc_old (W := w.drewN k) o e17
  have f17 : ∀ k c, ((w.drewN k).alloc (.cells c 23)).frozen? ⟨g, 17, none⟩ = false := fun k c => (frozen?_alloc_cells (w.drewN k) c 23 _).trans (hfree 17)
  have n0 : ∀ k c j, ((w.drewN k).alloc (.cells c 23)).cell? ⟨w.heap.size, j, none⟩ = c[j]? := fun k c j => World.cell?_alloc_at (w := w.drewN k) c 23 _ j rfl
  have n1 : ∀ k c j v, ((w.drewN k).alloc (.cells c 23)).setCell ⟨w.heap.size, j, none⟩ v = (w.drewN k).alloc (.cells (c.setIfInBounds j v) 23) := fun k c j v => World.setCell_alloc_at (w := w.drewN k) c 23 _ j v rfl
  have n2 : ∀ k c j, ((w.drewN k).alloc (.cells c 23)).frozen? ⟨w.heap.size, j, none⟩ = false := fun k c j => World.frozen?_alloc_at (w := w.drewN k) c 23 _ j rfl
  have at0 : ∀ k o, ((w.drewN k).alloc o).cell? ⟨2, s, none⟩ = some (.int .u32 t) := fun k o => cell?_alloc_old (W := w.drewN k) o ht
  have hcp : ∀ m, (Builtin.copy_ #[28, 28] 3 #[.slice (some ⟨w.heap.size, 1, none⟩) 1 3, .slice (some ⟨w.heap.size, 0, none⟩) 1 4]).run Ybad.prog ((w.drewN m).alloc (.cells #[.int .u32 r0, .int .u32 r1, .int .u32 r2, .int .u32 r3] 23)) = .ok (.int .i64 1) ((w.drewN m).alloc (.cells #[.int .u32 r0, .int .u32 r0, .int .u32 r2, .int .u32 r3] 23)) := fun m => by
    have h := run_copy_cells (P := Ybad.prog) ((w.drewN m).alloc (.cells #[.int .u32 r0, .int .u32 r1, .int .u32 r2, .int .u32 r3] 23)) 28 28 3 22 w.heap.size 1 1 3 ⟨w.heap.size, 0, none⟩ 1 4 [.int .u32 r0] Ybad.underlying28 Ybad.size22 rfl ?_ ?_ ?_ ?_
    · rw [h]
      simp only [World.setCells, n1]
      rfl
    · intro j v hj
      rw [Addr.add_lit, n0, Nat.zero_add]
      match j, hj with
      | 0, hj => simpa using hj
    · intro j hj
      rw [n0]
      match j, hj with
      | 0, hj => rfl
    · intro j hj; exact n2 _ _ _
    · intro v hv
      simp at hv
      rcases hv with rfl <;> rfl
  have hcp2 : ∀ m, (Builtin.copy_ #[28, 28] 3 #[.slice (some ⟨w.heap.size, 1, none⟩) 1 3, .slice (some ⟨w.heap.size, 0, none⟩) 1 4]).run Ybad.prog ((w.drewN m).alloc (.cells #[.int .u32 r0, .int .u32 r1, .int .u32 r2, .int .u32 r3] 23)).drew = .ok (.int .i64 1) ((w.drewN m).alloc (.cells #[.int .u32 r0, .int .u32 r0, .int .u32 r2, .int .u32 r3] 23)).drew := fun m => hcp (m + 1)
  have HC : Hid (∀ j, j < 18 → ∃ v, w.cell? ⟨g, j, none⟩ = some v) := hcells
  have hg : g < w.heap.size := World.block_lt_of_cell? _ _ c10
  clear hcells
  clear hfree e13 e14 e15 e16 e17
  go_enter Ybad.func4, Ybad.ntmps4
  go_upto_region 1 with fail
  go_quiet (fail)
  go_upto_region 2 with fail
  go_region
  go_wp2_with fail
  refine (rep_walk w.heap.size 0 r0 r1 r2 r3 d _ (n0 _ _ 0) (n0 _ _ 1) (n0 _ _ 2) (n0 _ _ 3)).mono ?_
  rintro e w1 ⟨rfl, n, rfl⟩
  rw [hk, alloc_drewN']
  go_upto_region 6 with fail
  go_region
  go_wp2
  go_end0
  exact ⟨rfl, (left_of ((below_drewN (Below.refl _ _) _).alloc (Nat.le_refl _) _) hg HC.out (set1 _ _ _ _) (set1 _ _ _ _) (set1 _ _ _ _) (set1 _ _ _ _) (set1 _ _ _ _)).drew⟩

set_option maxHeartbeats 2000000 in
theorem arr_rep20 (pb g s : Nat) (r0 r1 r2 r3 len dist t : Int) (w : World)
    (hP : w.cell? ⟨pb, 9502, none⟩ = some (.slice (some ⟨g, 0, none⟩) 2 2))
    (c10 : w.cell? ⟨g, 10, none⟩ = some (.int .i64 0)) (c11 : w.cell? ⟨g, 11, none⟩ = some (.int .i64 len)) (c12 : w.cell? ⟨g, 12, none⟩ = some (.int .i64 dist))
    (hs : s < 12) (d4 : w.cell? ⟨g, 4, none⟩ = some (.int .u32 s)) (d5 : w.cell? ⟨g, 5, none⟩ = some (.int .u32 r0)) (d6 : w.cell? ⟨g, 6, none⟩ = some (.int .u32 r1)) (d7 : w.cell? ⟨g, 7, none⟩ = some (.int .u32 r2)) (d8 : w.cell? ⟨g, 8, none⟩ = some (.int .u32 r3))
    (hcells : ∀ j, j < 18 → ∃ v, w.cell? ⟨g, j, none⟩ = some v) (hfree : ∀ j, w.frozen? ⟨g, j, none⟩ = false) (d : Int) (hd : (dist == 0) = false) (hl : (len == 1) = false) (hw : wrap64 (dist - 1) % 4294967296 = d) (hk : firstAt r0 r1 r2 r3 d = 2) (ht : w.cell? ⟨2, s, none⟩ = some (.int .u32 t)) :
    Calls Ybad.prog 4 #[.pointer (some ⟨pb, 0, none⟩), .int .i64 1] w fun e w' => e = .returned (.tuple #[]) ∧ Left g t d r0 r1 r3 w w' := by
  have hsi : (s : Int) < 12 := by omega
  have a4 : ∀ k o, ((w.drewN k).alloc o).cell? ⟨g, 4, none⟩ = some (.int .u32 s) := fun k o => cell?_alloc_old (W := w.drewN k) o d4
  have a5 : ∀ k o, ((w.drewN k).alloc o).cell? ⟨g, 5, none⟩ = some (.int .u32 r0) := fun k o => cell?_alloc_old (W := w.drewN k) o d5
  have a6 : ∀ k o, ((w.drewN k).alloc o).cell? ⟨g, 6, none⟩ = some (.int .u32 r1) := fun k o => cell?_alloc_old (W := w.drewN k) o d6
  have a7 : ∀ k o, ((w.drewN k).alloc o).cell? ⟨g, 7, none⟩ = some (.int .u32 r2) := fun k o => cell?_alloc_old (W := w.drewN k) o d7
  have a8 : ∀ k o, ((w.drewN k).alloc o).cell? ⟨g, 8, none⟩ = some (.int .u32 r3) := fun k o => cell?_alloc_old (W := w.drewN k) o d8
  have a11 : ∀ k o, ((w.drewN k).alloc o).cell? ⟨g, 11, none⟩ = some (.int .i64 len) := fun k o => cell?_alloc_old (W := w.drewN k) o c11
  have a12 : ∀ k o, ((w.drewN k).alloc o).cell? ⟨g, 12, none⟩ = some (.int .i64 dist) := fun k o => cell?_alloc_old (W := w.drewN k) o c12
  obtain ⟨v13, e13⟩ := hcells 13 (by omega)
  have x13 : ∀ k o, ((w.drewN k).alloc o).cell? ⟨g, 13, none⟩ = some v13 := fun k o => cell?_alloc_old (W := w.drewN k) o e13
  have f13 : ∀ k c, ((w.drewN k).alloc (.cells c 23)).frozen? ⟨g, 13, none⟩ = false := fun k c => (frozen?_alloc_cells (w.drewN k) c 23 _).trans (hfree 13)
  obtain ⟨v14, e14⟩ := hcells 14 (by omega)
  have x14 : ∀ k o, ((w.drewN k).alloc o).cell? ⟨g, 14, none⟩ = some v14 := fun k o => cell?_alloc_old (W := w.drewN k) o e14
  have f14 : ∀ k c, ((w.drewN k).alloc (.cells c 23)).frozen? ⟨g, 14, none⟩ = false := fun k c => (frozen?_alloc_cells (w.drewN k) c 23 _).trans (hfree 14)
  obtain ⟨v15, e15⟩ := hcells 15 (by omega)
  have x15 : ∀ k o, ((w.drewN k).alloc o).cell? ⟨g, 15, none⟩ = some v15 := fun k o => cell?_alloc_old (W := w.drewN k) o e15
  have f15 : ∀ k c, ((w.drewN k).alloc (.cells c 23)).frozen? ⟨g, 15, none⟩ = false := fun k c => (frozen?_alloc_cells (w.drewN k) c 23 _).trans (hfree 15)
  obtain ⟨v16, e16⟩ := hcells 16 (by omega)
  have x16 : ∀ k o, ((w.drewN k).alloc o).cell? ⟨g, 16, none⟩ = some v16 := fun k o => cell?_alloc_old (W := w.drewN k) o e16
  have f16 : ∀ k c, ((w.drewN k).alloc (.cells c 23)).frozen? ⟨g, 16, none⟩ = false := fun k c => (frozen?_alloc_cells (w.drewN k) c 23 _).trans (hfree 16)
  obtain ⟨v17, e17⟩ := hcells 17 (by omega)
  have x17 : ∀ k o, ((w.drewN k).alloc o).cell? ⟨g, 17, none⟩ = some v17 := fun k o => cell?_alloc_old (W := w.drewN k) o e17
  have f17 : ∀ k c, ((w.drewN k).alloc (.cells c 23)).frozen? ⟨g, 17, none⟩ = false := fun k c => (frozen?_alloc_cells (w.drewN k) c 23 _).trans (hfree 17)
  have n0 : ∀ k c j, ((w.drewN k).alloc (.cells c 23)).cell? ⟨w.heap.size, j, none⟩ = c[j]? := fun k c j => World.cell?_alloc_at (w := w.drewN k) c 23 _ j rfl
  have n1 : ∀ k c j v, ((w.drewN k).alloc (.cells c 23)).setCell ⟨w.heap.size, j, none⟩ v = (w.drewN k).alloc (.cells (c.setIfInBounds j v) 23) := fun k c j v => World.setCell_alloc_at (w := w.drewN k) c 23 _ j v rfl
  have n2 : ∀ k c j, ((w.drewN k).alloc (.cells c 23)).frozen? ⟨w.heap.size, j, none⟩ = false := fun k c j => World.frozen?_alloc_at (w := w.drewN k) c 23 _ j rfl
  have at0 : ∀ k o, ((w.drewN k).alloc o).cell? ⟨2, s, none⟩ = some (.int .u32 t) := fun k o => cell?_alloc_old (W := w.drewN k) o ht
  have hcp : ∀ m, (Builtin.copy_ #[28, 28] 3 #[.slice (some ⟨w.heap.size, 1, none⟩) 2 3, .slice (some ⟨w.heap.size, 0, none⟩) 2 4]).run Ybad.prog ((w.drewN m).alloc (.cells #[.int .u32 r0, .int .u32 r1, .int .u32 r2, .int .u32 r3] 23)) = .ok (.int .i64 2) ((w.drewN m).alloc (.cells #[.int .u32 r0, .int .u32 r0, .int .u32 r1, .int .u32 r3] 23)) := fun m => by
    have h := run_copy_cells (P := Ybad.prog) ((w.drewN m).alloc (.cells #[.int .u32 r0, .int .u32 r1, .int .u32 r2, .int .u32 r3] 23)) 28 28 3 22 w.heap.size 1 2 3 ⟨w.heap.size, 0, none⟩ 2 4 [.int .u32 r0, .int .u32 r1] Ybad.underlying28 Ybad.size22 rfl ?_ ?_ ?_ ?_
    · rw [h]
      simp only [World.setCells, n1]
      rfl
    · intro j v hj
      rw [Addr.add_lit, n0, Nat.zero_add]
      match j, hj with
      | 0, hj => simpa using hj
      | 1, hj => simpa using hj
    · intro j hj
      rw [n0]
      match j, hj with
      | 0, hj => rfl
      | 1, hj => rfl
    · intro j hj; exact n2 _ _ _
    · intro v hv
      simp at hv
      rcases hv with rfl | rfl <;> rfl
  have hcp2 : ∀ m, (Builtin.copy_ #[28, 28] 3 #[.slice (some ⟨w.heap.size, 1, none⟩) 2 3, .slice (some ⟨w.heap.size, 0, none⟩) 2 4]).run Ybad.prog ((w.drewN m).alloc (.cells #[.int .u32 r0, .int .u32 r1, .int .u32 r2, .int .u32 r3] 23)).drew = .ok (.int .i64 2) ((w.drewN m).alloc (.cells #[.int .u32 r0, .int .u32 r0, .int .u32 r1, .int .u32 r3] 23)).drew := fun m => hcp (m + 1)
  have HC : Hid (∀ j, j < 18 → ∃ v, w.cell? ⟨g, j, none⟩ = some v) := hcells
  have hg : g < w.heap.size := World.block_lt_of_cell? _ _ c10
  clear hcells
  clear hfree e13 e14 e15 e16 e17
  go_enter Ybad.func4, Ybad.ntmps4
  go_upto_region 1 with fail
  go_quiet (fail)
  go_upto_region 2 with fail
  go_region
  go_wp2_with fail
  refine (rep_walk w.heap.size 0 r0 r1 r2 r3 d _ (n0 _ _ 0) (n0 _ _ 1) (n0 _ _ 2) (n0 _ _ 3)).mono ?_
  rintro e w1 ⟨rfl, n, rfl⟩
  rw [hk, alloc_drewN']
  go_upto_region 6 with fail
  go_region
  go_wp2
  go_end0
  exact ⟨rfl, (left_of ((below_drewN (Below.refl _ _) _).alloc (Nat.le_refl _) _) hg HC.out (set1 _ _ _ _) (set1 _ _ _ _) (set1 _ _ _ _) (set1 _ _ _ _) (set1 _ _ _ _)).drew⟩

set_option maxHeartbeats 2000000 in
theorem arr_rep30 (pb g s : Nat) (r0 r1 r2 r3 len dist t : Int) (w : World)
    (hP : w.cell? ⟨pb, 9502, none⟩ = some (.slice (some ⟨g, 0, none⟩) 2 2))
    (c10 : w.cell? ⟨g, 10, none⟩ = some (.int .i64 0)) (c11 : w.cell? ⟨g, 11, none⟩ = some (.int .i64 len)) (c12 : w.cell? ⟨g, 12, none⟩ = some (.int .i64 dist))
    (hs : s < 12) (d4 : w.cell? ⟨g, 4, none⟩ = some (.int .u32 s)) (d5 : w.cell? ⟨g, 5, none⟩ = some (.int .u32 r0)) (d6 : w.cell? ⟨g, 6, none⟩ = some (.int .u32 r1)) (d7 : w.cell? ⟨g, 7, none⟩ = some (.int .u32 r2)) (d8 : w.cell? ⟨g, 8, none⟩ = some (.int .u32 r3))
    (hcells : ∀ j, j < 18 → ∃ v, w.cell? ⟨g, j, none⟩ = some v) (hfree : ∀ j, w.frozen? ⟨g, j, none⟩ = false) (d : Int) (hd : (dist == 0) = false) (hl : (len == 1) = false) (hw : wrap64 (dist - 1) % 4294967296 = d) (hk : firstAt r0 r1 r2 r3 d = 3) (ht : w.cell? ⟨2, s, none⟩ = some (.int .u32 t)) :
    Calls Ybad.prog 4 #[.pointer (some ⟨pb, 0, none⟩), .int .i64 1] w fun e w' => e = .returned (.tuple #[]) ∧ Left g t d r0 r1 r2 w w' := by
  have hsi : (s : Int) < 12 := by omega
  have a4 : ∀ k o, ((w.drewN k).alloc o).cell? ⟨g, 4, none⟩ = some (.int .u32 s) := fun k o => cell?_alloc_old (W := w.drewN k) o d4
  have a5 : ∀ k o, ((w.drewN k).alloc o).cell? ⟨g, 5, none⟩ = some (.int .u32 r0) := fun k o => cell?_alloc_old (W := w.drewN k) o d5
  have a6 : ∀ k o, ((w.drewN k).alloc o).cell? ⟨g, 6, none⟩ = some (.int .u32 r1) := fun k o => cell?_alloc_old (W := w.drewN k) o d6
  have a7 : ∀ k o, ((w.drewN k).alloc o).cell? ⟨g, 7, none⟩ = some (.int .u32 r2) := fun k o => cell?_alloc_old (W := w.drewN k) o d7
  have a8 : ∀ k o, ((w.drewN k).alloc o).cell? ⟨g, 8, none⟩ = some (.int .u32 r3) := fun k o => cell?_alloc_old (W := w.drewN k) o d8
  have a11 : ∀ k o, ((w.drewN k).alloc o).cell? ⟨g, 11, none⟩ = some (.int .i64 len) := fun k o => cell?_alloc_old (W := w.drewN k) o c11
  have a12 : ∀ k o, ((w.drewN k).alloc o).cell? ⟨g, 12, none⟩ = some (.int .i64 dist) := fun k o => cell?_alloc_old (W := w.drewN k) o c12
  obtain ⟨v13, e13⟩ := hcells 13 (by omega)
  have x13 : ∀ k o, ((w.drewN k).alloc o).cell? ⟨g, 13, none⟩ = some v13 := fun k o => cell?_alloc_old (W := w.drewN k) o e13
  have f13 : ∀ k c, ((w.drewN k).alloc (.cells c 23)).frozen? ⟨g, 13, none⟩ = false := fun k c => (frozen?_alloc_cells (w.drewN k) c 23 _).trans (hfree 13)
  obtain ⟨v14, e14⟩ := hcells 14 (by omega)
  have x14 : ∀ k o, ((w.drewN k).alloc o).cell? ⟨g, 14, none⟩ = some v14 := fun k o => cell?_alloc_old (W := w.drewN k) o e14
  have f14 : ∀ k c, ((w.drewN k).alloc (.cells c 23)).frozen? ⟨g, 14, none⟩ = false := fun k c => (frozen?_alloc_cells (w.drewN k) c 23 _).trans (hfree 14)
  obtain ⟨v15, e15⟩ := hcells 15 (by omega)
  have x15 : ∀ k o, ((w.drewN k).alloc o).cell? ⟨g, 15, none⟩ = some v15 := fun k o => cell?_alloc_old (W := w.drewN k) o e15
  have f15 : ∀ k c, ((w.drewN k).alloc (.cells c 23)).frozen? ⟨g, 15, none⟩ = false := fun k c => (frozen?_alloc_cells (w.drewN k) c 23 _).trans (hfree 15)
  obtain ⟨v16, e16⟩ := hcells 16 (by omega)
  have x16 : ∀ k o, ((w.drewN k).alloc o).cell? ⟨g, 16, none⟩ = some v16 := fun k o => cell?_alloc_old (W := w.drewN k) o e16
  have f16 : ∀ k c, ((w.drewN k).alloc (.cells c 23)).frozen? ⟨g, 16, none⟩ = false := fun k c => (frozen?_alloc_cells (w.drewN k) c 23 _).trans (hfree 16)
  obtain ⟨v17, e17⟩ := hcells 17 (by omega)
  have x17 : ∀ k o, ((w.drewN k).alloc o).cell? ⟨g, 17, none⟩ = some v17 := fun k o => cell?_alloc_old (W := w.drewN k) o e17
  have f17 : ∀ k c, ((w.drewN k).alloc (.cells c 23)).frozen? ⟨g, 17, none⟩ = false := fun k c => (frozen?_alloc_cells (w.drewN k) c 23 _).trans (hfree 17)
  have n0 : ∀ k c j, ((w.drewN k).alloc (.cells c 23)).cell? ⟨w.heap.size, j, none⟩ = c[j]? := fun k c j => World.cell?_alloc_at (w := w.drewN k) c 23 _ j rfl
  have n1 : ∀ k c j v, ((w.drewN k).alloc (.cells c 23)).setCell ⟨w.heap.size, j, none⟩ v = (w.drewN k).alloc (.cells (c.setIfInBounds j v) 23) := fun k c j v => World.setCell_alloc_at (w := w.drewN k) c 23 _ j v rfl
  have n2 : ∀ k c j, ((w.drewN k).alloc (.cells c 23)).frozen? ⟨w.heap.size, j, none⟩ = false := fun k c j => World.frozen?_alloc_at (w := w.drewN k) c 23 _ j rfl
  have at0 : ∀ k o, ((w.drewN k).alloc o).cell? ⟨2, s, none⟩ = some (.int .u32 t) := fun k o => cell?_alloc_old (W := w.drewN k) o ht
  have hcp : ∀ m, (Builtin.copy_ #[28, 28] 3 #[.slice (some ⟨w.heap.size, 1, none⟩) 3 3, .slice (some ⟨w.heap.size, 0, none⟩) 3 4]).run Ybad.prog ((w.drewN m).alloc (.cells #[.int .u32 r0, .int .u32 r1, .int .u32 r2, .int .u32 r3] 23)) = .ok (.int .i64 3) ((w.drewN m).alloc (.cells #[.int .u32 r0, .int .u32 r0, .int .u32 r1, .int .u32 r2] 23)) := fun m => by
    have h := run_copy_cells (P := Ybad.prog) ((w.drewN m).alloc (.cells #[.int .u32 r0, .int .u32 r1, .int .u32 r2, .int .u32 r3] 23)) 28 28 3 22 w.heap.size 1 3 3 ⟨w.heap.size, 0, none⟩ 3 4 [.int .u32 r0, .int .u32 r1, .int .u32 r2] Ybad.underlying28 Ybad.size22 rfl ?_ ?_ ?_ ?_
    · rw [h]
      simp only [World.setCells, n1]
      rfl
    · intro j v hj
      rw [Addr.add_lit, n0, Nat.zero_add]
      match j, hj with
      | 0, hj => simpa using hj
      | 1, hj => simpa using hj
      | 2, hj => simpa using hj
    · intro j hj
      rw [n0]
      match j, hj with
      | 0, hj => rfl
      | 1, hj => rfl
      | 2, hj => rfl
    · intro j hj; exact n2 _ _ _
    · intro v hv
      simp at hv
      rcases hv with rfl | rfl | rfl <;> rfl
  have hcp2 : ∀ m, (Builtin.copy_ #[28, 28] 3 #[.slice (some ⟨w.heap.size, 1, none⟩) 3 3, .slice (some ⟨w.heap.size, 0, none⟩) 3 4]).run Ybad.prog ((w.drewN m).alloc (.cells #[.int .u32 r0, .int .u32 r1, .int .u32 r2, .int .u32 r3] 23)).drew = .ok (.int .i64 3) ((w.drewN m).alloc (.cells #[.int .u32 r0, .int .u32 r0, .int .u32 r1, .int .u32 r2] 23)).drew := fun m => hcp (m + 1)
  have HC : Hid (∀ j, j < 18 → ∃ v, w.cell? ⟨g, j, none⟩ = some v) := hcells
  have hg : g < w.heap.size := World.block_lt_of_cell? _ _ c10
  clear hcells
  clear hfree e13 e14 e15 e16 e17
  go_enter Ybad.func4, Ybad.ntmps4
  go_upto_region 1 with fail
  go_quiet (fail)
  go_upto_region 2 with fail
  go_region
  go_wp2_with fail
  refine (rep_walk w.heap.size 0 r0 r1 r2 r3 d _ (n0 _ _ 0) (n0 _ _ 1) (n0 _ _ 2) (n0 _ _ 3)).mono ?_
  rintro e w1 ⟨rfl, n, rfl⟩
  rw [hk, alloc_drewN']
  go_upto_region 6 with fail
  go_region
  go_wp2
  go_end0
  exact ⟨rfl, (left_of ((below_drewN (Below.refl _ _) _).alloc (Nat.le_refl _) _) hg HC.out (set1 _ _ _ _) (set1 _ _ _ _) (set1 _ _ _ _) (set1 _ _ _ _) (set1 _ _ _ _)).drew⟩

set_option maxHeartbeats 2000000 in
theorem arr_rep01 (pb g s : Nat) (r0 r1 r2 r3 len dist t : Int) (w : World)
    (hP : w.cell? ⟨pb, 9502, none⟩ = some (.slice (some ⟨g, 0, none⟩) 2 2))
    (c10 : w.cell? ⟨g, 10, none⟩ = some (.int .i64 1)) (c11 : w.cell? ⟨g, 11, none⟩ = some (.int .i64 len)) (c12 : w.cell? ⟨g, 12, none⟩ = some (.int .i64 dist))
    (hs : s < 12) (d4 : w.cell? ⟨g, 13, none⟩ = some (.int .u32 s)) (d5 : w.cell? ⟨g, 14, none⟩ = some (.int .u32 r0)) (d6 : w.cell? ⟨g, 15, none⟩ = some (.int .u32 r1)) (d7 : w.cell? ⟨g, 16, none⟩ = some (.int .u32 r2)) (d8 : w.cell? ⟨g, 17, none⟩ = some (.int .u32 r3))
    (hcells : ∀ j, j < 18 → ∃ v, w.cell? ⟨g, j, none⟩ = some v) (hfree : ∀ j, w.frozen? ⟨g, j, none⟩ = false) (d : Int) (hd : (dist == 0) = false) (hl : (len == 1) = false) (hw : wrap64 (dist - 1) % 4294967296 = d) (hk : firstAt r0 r1 r2 r3 d = 0) (ht : w.cell? ⟨2, s, none⟩ = some (.int .u32 t)) :
    Calls Ybad.prog 4 #[.pointer (some ⟨pb, 0, none⟩), .int .i64 1] w fun e w' => e = .returned (.tuple #[]) ∧ Left g t d r1 r2 r3 w w' := by
  have hsi : (s : Int) < 12 := by omega
  have a4 : ∀ k o, ((w.drewN k).alloc o).cell? ⟨g, 13, none⟩ = some (.int .u32 s) := fun k o => cell?_alloc_old (W := w.drewN k) o d4
  have a5 : ∀ k o, ((w.drewN k).alloc o).cell? ⟨g, 14, none⟩ = some (.int .u32 r0) := fun k o => cell?_alloc_old (W := w.drewN k) o d5
  have a6 : ∀ k o, ((w.drewN k).alloc o).cell? ⟨g, 15, none⟩ = some (.int .u32 r1) := fun k o => cell?_alloc_old (W := w.drewN k) o d6
  have a7 : ∀ k o, ((w.drewN k).alloc o).cell? ⟨g, 16, none⟩ = some (.int .u32 r2) := fun k o => cell?_alloc_old (W := w.drewN k) o d7
  have a8 : ∀ k o, ((w.drewN k).alloc o).cell? ⟨g, 17, none⟩ = some (.int .u32 r3) := fun k o => cell?_alloc_old (W := w.drewN k) o d8
  have a11 : ∀ k o, ((w.drewN k).alloc o).cell? ⟨g, 11, none⟩ = some (.int .i64 len) := fun k o => cell?_alloc_old (W := w.drewN k) o c11
  have a12 : ∀ k o, ((w.drewN k).alloc o).cell? ⟨g, 12, none⟩ = some (.int .i64 dist) := fun k o => cell?_alloc_old (W := w.drewN k) o c12
  obtain ⟨v13, e13⟩ := hcells 13 (by omega)
  have x13 : ∀ k o, ((w.drewN k).alloc o).cell? ⟨g, 13, none⟩ = some v13 := fun k o => cell?_alloc_old (W := w.drewN k) o e13
  have f13 : ∀ k c, ((w.drewN k).alloc (.cells c 23)).frozen? ⟨g, 13, none⟩ = false := fun k c => (frozen?_alloc_cells (w.drewN k) c 23 _).trans (hfree 13)
  obtain ⟨v14, e14⟩ := hcells 14 (by omega)
  have x14 : ∀ k o, ((w.drewN k).alloc o).cell? ⟨g, 14, none⟩ = some v14 := fun k o => cell?_alloc_old (W := w.drewN k) o e14
  have f14 : ∀ k c, ((w.drewN k).alloc (.cells c 23)).frozen? ⟨g, 14, none⟩ = false := fun k c => (frozen?_alloc_cells (w.drewN k) c 23 _).trans (hfree 14)
  obtain ⟨v15, e15⟩ := hcells 15 (by omega)
  have x15 : ∀ k o, ((w.drewN k).alloc o).cell? ⟨g, 15, none⟩ = some v15 := fun k o => cell?_alloc_old (W := w.drewN k) o e15
  have f15 : ∀ k c, ((w.drewN k).alloc (.cells c 23)).frozen? ⟨g, 15, none⟩ = false := fun k c => (frozen?_alloc_cells (w.drewN k) c 23 _).trans (hfree 15)
  obtain ⟨v16, e16⟩ := hcells 16 (by omega)
  have x16 : ∀ k o, ((w.drewN k).alloc o).cell? ⟨g, 16, none⟩ = some v16 := fun k o => cell?_alloc_old (W := w.drewN k) o e16
  have f16 : ∀ k c, ((w.drewN k).alloc (.cells c 23)).frozen? ⟨g, 16, none⟩ = false := fun k c => (frozen?_alloc_cells (w.drewN k) c 23 _).trans (hfree 16)
  obtain ⟨v17, e17⟩ := hcells 17 (by omega)
  have x17 : ∀ k o, ((w.drewN k).alloc o).cell? ⟨g, 17, none⟩ = some v17 := fun k o => cell?_alloc_old (W := w.drewN k) o e17
  have f17 : ∀ k c, ((w.drewN k).alloc (.cells c 23)).frozen? ⟨g, 17, none⟩ = false := fun k c => (frozen?_alloc_cells (w.drewN k) c 23 _).trans (hfree 17)
  have n0 : ∀ k c j, ((w.drewN k).alloc (.cells c 23)).cell? ⟨w.heap.size, j, none⟩ = c[j]? := fun k c j => World.cell?_alloc_at (w := w.drewN k) c 23 _ j rfl
  have n1 : ∀ k c j v, ((w.drewN k).alloc (.cells c 23)).setCell ⟨w.heap.size, j, none⟩ v = (w.drewN k).alloc (.cells (c.setIfInBounds j v) 23) := fun k c j v => World.setCell_alloc_at (w := w.drewN k) c 23 _ j v rfl
  have n2 : ∀ k c j, ((w.drewN k).alloc (.cells c 23)).frozen? ⟨w.heap.size, j, none⟩ = false := fun k c j => World.frozen?_alloc_at (w := w.drewN k) c 23 _ j rfl
  have at0 : ∀ k o, ((w.drewN k).alloc o).cell? ⟨2, s, none⟩ = some (.int .u32 t) := fun k o => cell?_alloc_old (W := w.drewN k) o ht
  have hcp : ∀ m, (Builtin.copy_ #[28, 28] 3 #[.slice (some ⟨w.heap.size, 1, none⟩) 0 3, .slice (some ⟨w.heap.size, 0, none⟩) 0 4]).run Ybad.prog ((w.drewN m).alloc (.cells #[.int .u32 r0, .int .u32 r1, .int .u32 r2, .int .u32 r3] 23)) = .ok (.int .i64 0) ((w.drewN m).alloc (.cells #[.int .u32 r0, .int .u32 r1, .int .u32 r2, .int .u32 r3] 23)) := fun m =>
    run_copy_none (P := Ybad.prog) _ 28 28 3 22 _ _ 0 3 0 4 Ybad.underlying28 Ybad.size22 rfl
  have hcp2 : ∀ m, (Builtin.copy_ #[28, 28] 3 #[.slice (some ⟨w.heap.size, 1, none⟩) 0 3, .slice (some ⟨w.heap.size, 0, none⟩) 0 4]).run Ybad.prog ((w.drewN m).alloc (.cells #[.int .u32 r0, .int .u32 r1, .int .u32 r2, .int .u32 r3] 23)).drew = .ok (.int .i64 0) ((w.drewN m).alloc (.cells #[.int .u32 r0, .int .u32 r1, .int .u32 r2, .int .u32 r3] 23)).drew := fun m => hcp (m + 1)
  have HC : Hid (∀ j, j < 18 → ∃ v, w.cell? ⟨g, j, none⟩ = some v) := hcells
  have hg : g < w.heap.size := World.block_lt_of_cell? _ _ c10
  clear hcells
  clear hfree e13 e14 e15 e16 e17
  go_enter Ybad.func4, Ybad.ntmps4
  go_upto_region 1 with fail
  go_quiet (fail)
  go_upto_region 2 with fail
  go_region
  go_wp2_with fail
  refine (rep_walk w.heap.size 0 r0 r1 r2 r3 d _ (n0 _ _ 0) (n0 _ _ 1) (n0 _ _ 2) (n0 _ _ 3)).mono ?_
  rintro e w1 ⟨rfl, n, rfl⟩
  rw [hk, alloc_drewN']
  go_upto_region 6 with fail
  go_region
  go_wp2
  go_end0
  exact ⟨rfl, (left_of ((below_drewN (Below.refl _ _) _).alloc (Nat.le_refl _) _) hg HC.out (set1 _ _ _ _) (set1 _ _ _ _) (set1 _ _ _ _) (set1 _ _ _ _) (set1 _ _ _ _)).drew⟩

set_option maxHeartbeats 2000000 in
theorem arr_rep11 (pb g s : Nat) (r0 r1 r2 r3 len dist t : Int) (w : World)
    (hP : w.cell? ⟨pb, 9502, none⟩ = some (.slice (some ⟨g, 0, none⟩) 2 2))
    (c10 : w.cell? ⟨g, 10, none⟩ = some (.int .i64 1)) (c11 : w.cell? ⟨g, 11, none⟩ = some (.int .i64 len)) (c12 : w.cell? ⟨g, 12, none⟩ = some (.int .i64 dist))
    (hs : s < 12) (d4 : w.cell? ⟨g, 13, none⟩ = some (.int .u32 s)) (d5 : w.cell? ⟨g, 14, none⟩ = some (.int .u32 r0)) (d6 : w.cell? ⟨g, 15, none⟩ = some (.int .u32 r1)) (d7 : w.cell? ⟨g, 16, none⟩ = some (.int .u32 r2)) (d8 : w.cell? ⟨g, 17, none⟩ = some (.int .u32 r3))
    (hcells : ∀ j, j < 18 → ∃ v, w.cell? ⟨g, j, none⟩ = some v) (hfree : ∀ j, w.frozen? ⟨g, j, none⟩ = false) (d : Int) (hd : (dist == 0) = false) (hl : (len == 1) = false) (hw : wrap64 (dist - 1) % 4294967296 = d) (hk : firstAt r0 r1 r2 r3 d = 1) (ht : w.cell? ⟨2, s, none⟩ = some (.int .u32 t)) :
    Calls Ybad.prog 4 #[.pointer (some ⟨pb, 0, none⟩), .int .i64 1] w fun e w' => e = .returned (.tuple #[]) ∧ Left g t d r0 r2 r3 w w' := by
  have hsi : (s : Int) < 12 := by omega
  have a4 : ∀ k o, ((w.drewN k).alloc o).cell? ⟨g, 13, none⟩ = some (.int .u32 s) := fun k o => cell?_alloc_old (W := w.drewN k) o d4
  have a5 : ∀ k o, ((w.drewN k).alloc o).cell? ⟨g, 14, none⟩ = some (.int .u32 r0) := fun k o => cell?_alloc_old (W := w.drewN k) o d5
  have a6 : ∀ k o, ((w.drewN k).alloc o).cell? ⟨g, 15, none⟩ = some (.int .u32 r1) := fun k o => cell?_alloc_old (W := w.drewN k) o d6
  have a7 : ∀ k o, ((w.drewN k).alloc o).cell? ⟨g, 16, none⟩ = some (.int .u32 r2) := fun k o => cell?_alloc_old (W := w.drewN k) o d7
  have a8 : ∀ k o, ((w.drewN k).alloc o).cell? ⟨g, 17, none⟩ = some (.int .u32 r3) := fun k o => cell?_alloc_old (W := w.drewN k) o d8
  have a11 : ∀ k o, ((w.drewN k).alloc o).cell? ⟨g, 11, none⟩ = some (.int .i64 len) := fun k o => cell?_alloc_old (W := w.drewN k) o c11
  have a12 : ∀ k o, ((w.drewN k).alloc o).cell? ⟨g, 12, none⟩ = some (.int .i64 dist) := fun k o => cell?_alloc_old (W := w.drewN k) o c12
  obtain ⟨v13, e13⟩ := hcells 13 (by omega)
  have x13 : ∀ k o, ((w.drewN k).alloc o).cell? ⟨g, 13, none⟩ = some v13 := fun k o => cell?_alloc_old (W := w.drewN k) o e13
  have f13 : ∀ k c, ((w.drewN k).alloc (.cells c 23)).frozen? ⟨g, 13, none⟩ = false := fun k c => (frozen?_alloc_cells (w.drewN k) c 23 _).trans (hfree 13)
  obtain ⟨v14, e14⟩ := hcells 14 (by omega)
  have x14 : ∀ k o, ((w.drewN k).alloc o).cell? ⟨g, 14, none⟩ = some v14 := fun k o => cell?_alloc_old (W := w.drewN k) o e14
  have f14 : ∀ k c, ((w.drewN k).alloc (.cells c 23)).frozen? ⟨g, 14, none⟩ = false := fun k c => (frozen?_alloc_cells (w.drewN k) c 23 _).trans (hfree 14)
  obtain ⟨v15, e15⟩ := hcells 15 (by omega)
  have x15 : ∀ k o, ((w.drewN k).alloc o).cell? ⟨g, 15, none⟩ = some v15 := fun k o => cell?_alloc_old (W := w.drewN k) o e15
  have f15 : ∀ k c, ((w.drewN k).alloc (.cells c 23)).frozen? ⟨g, 15, none⟩ = false := fun k c => (frozen?_alloc_cells (w.drewN k) c 23 _).trans (hfree 15)
  obtain ⟨v16, e16⟩ := hcells 16 (by omega)
  have x16 : ∀ k o, ((w.drewN k).alloc o).cell? ⟨g, 16, none⟩ = some v16 := fun k o => cell?_alloc_old (W := w.drewN k) o e16
  have f16 : ∀ k c, ((w.drewN k).alloc (.cells c 23)).frozen? ⟨g, 16, none⟩ = false := fun k c => (frozen?_alloc_cells (w.drewN k) c 23 _).trans (hfree 16)
  obtain ⟨v17, e17⟩ := hcells 17 (by omega)
  have x17 : ∀ k o, ((w.drewN k).alloc o).cell? ⟨g, 17, none⟩ = some v17 := fun k o => cell?_alloc_old (W := w.drewN k) o e17
  have f17 : ∀ k c, ((w.drewN k).alloc (.cells c 23)).frozen? ⟨g, 17, none⟩ = false := fun k c => (frozen?_alloc_cells (w.drewN k) c 23 _).trans (hfree 17)
  have n0 : ∀ k c j, ((w.drewN k).alloc (.cells c 23)).cell? ⟨w.heap.size, j, none⟩ = c[j]? := fun k c j => World.cell?_alloc_at (w := w.drewN k) c 23 _ j rfl
  have n1 : ∀ k c j v, ((w.drewN k).alloc (.cells c 23)).setCell ⟨w.heap.size, j, none⟩ v = (w.drewN k).alloc (.cells (c.setIfInBounds j v) 23) := fun k c j v => World.setCell_alloc_at (w := w.drewN k) c 23 _ j v rfl
  have n2 : ∀ k c j, ((w.drewN k).alloc (.cells c 23)).frozen? ⟨w.heap.size, j, none⟩ = false := fun k c j => World.frozen?_alloc_at (w := w.drewN k) c 23 _ j rfl
  have at0 : ∀ k o, ((w.drewN k).alloc o).cell? ⟨2, s, none⟩ = some (.int .u32 t) := fun k o => cell?_alloc_old (W := w.drewN k) o ht
  have hcp : ∀ m, (Builtin.copy_ #[28, 28] 3 #[.slice (some ⟨w.heap.size, 1, none⟩) 1 3, .slice (some ⟨w.heap.size, 0, none⟩) 1 4]).run Ybad.prog ((w.drewN m).alloc (.cells #[.int .u32 r0, .int .u32 r1, .int .u32 r2, .int .u32 r3] 23)) = .ok (.int .i64 1) ((w.drewN m).alloc (.cells #[.int .u32 r0, .int .u32 r0, .int .u32 r2, .int .u32 r3] 23)) := fun m => by
    have h := run_copy_cells (P := Ybad.prog) ((w.drewN m).alloc (.cells #[.int .u32 r0, .int .u32 r1, .int .u32 r2, .int .u32 r3] 23)) 28 28 3 22 w.heap.size 1 1 3 ⟨w.heap.size, 0, none⟩ 1 4 [.int .u32 r0] Ybad.underlying28 Ybad.size22 rfl ?_ ?_ ?_ ?_
    · rw [h]
      simp only [World.setCells, n1]
      rfl
    · intro j v hj
      rw [Addr.add_lit, n0, Nat.zero_add]
      match j, hj with
      | 0, hj => simpa using hj
    · intro j hj
      rw [n0]
      match j, hj with
      | 0, hj => rfl
    · intro j hj; exact n2 _ _ _
    · intro v hv
      simp at hv
      rcases hv with rfl <;> rfl
  have hcp2 : ∀ m, (Builtin.copy_ #[28, 28] 3 #[.slice (some ⟨w.heap.size, 1, none⟩) 1 3, .slice (some ⟨w.heap.size, 0, none⟩) 1 4]).run Ybad.prog ((w.drewN m).alloc (.cells #[.int .u32 r0, .int .u32 r1, .int .u32 r2, .int .u32 r3] 23)).drew = .ok (.int .i64 1) ((w.drewN m).alloc (.cells #[.int .u32 r0, .int .u32 r0, .int .u32 r2, .int .u32 r3] 23)).drew := fun m => hcp (m + 1)
  have HC : Hid (∀ j, j < 18 → ∃ v, w.cell? ⟨g, j, none⟩ = some v) := hcells
  have hg : g < w.heap.size := World.block_lt_of_cell? _ _ c10
  clear hcells
  clear hfree e13 e14 e15 e16 e17
  go_enter Ybad.func4, Ybad.ntmps4
  go_upto_region 1 with fail
  go_quiet (fail)
  go_upto_region 2 with fail
  go_region
  go_wp2_with fail
  refine (rep_walk w.heap.size 0 r0 r1 r2 r3 d _ (n0 _ _ 0) (n0 _ _ 1) (n0 _ _ 2) (n0 _ _ 3)).mono ?_
  rintro e w1 ⟨rfl, n, rfl⟩
  rw [hk, alloc_drewN']
  go_upto_region 6 with fail
  go_region
  go_wp2
  go_end0
  exact ⟨rfl, (left_of ((below_drewN (Below.refl _ _) _).alloc (Nat.le_refl _) _) hg HC.out (set1 _ _ _ _) (set1 _ _ _ _) (set1 _ _ _ _) (set1 _ _ _ _) (set1 _ _ _ _)).drew⟩

set_option maxHeartbeats 2000000 in
theorem arr_rep21 (pb g s : Nat) (r0 r1 r2 r3 len dist t : Int) (w : World)
    (hP : w.cell? ⟨pb, 9502, none⟩ = some (.slice (some ⟨g, 0, none⟩) 2 2))
    (c10 : w.cell? ⟨g, 10, none⟩ = some (.int .i64 1)) (c11 : w.cell? ⟨g, 11, none⟩ = some (.int .i64 len)) (c12 : w.cell? ⟨g, 12, none⟩ = some (.int .i64 dist))
    (hs : s < 12) (d4 : w.cell? ⟨g, 13, none⟩ = some (.int .u32 s)) (d5 : w.cell? ⟨g, 14, none⟩ = some (.int .u32 r0)) (d6 : w.cell? ⟨g, 15, none⟩ = some (.int .u32 r1)) (d7 : w.cell? ⟨g, 16, none⟩ = some (.int .u32 r2)) (d8 : w.cell? ⟨g, 17, none⟩ = some (.int .u32 r3))
    (hcells : ∀ j, j < 18 → ∃ v, w.cell? ⟨g, j, none⟩ = some v) (hfree : ∀ j, w.frozen? ⟨g, j, none⟩ = false) (d : Int) (hd : (dist == 0) = false) (hl : (len == 1) = false) (hw : wrap64 (dist - 1) % 4294967296 = d) (hk : firstAt r0 r1 r2 r3 d = 2) (ht : w.cell? ⟨2, s, none⟩ = some (.int .u32 t)) :
    Calls Ybad.prog 4 #[.pointer (some ⟨pb, 0, none⟩), .int .i64 1] w fun e w' => e = .returned (.tuple #[]) ∧ Left g t d r0 r1 r3 w w' := by
  have hsi : (s : Int) < 12 := by omega
  have a4 : ∀ k o, ((w.drewN k).alloc o).cell? ⟨g, 13, none⟩ = some (.int .u32 s) := fun k o => cell?_alloc_old (W := w.drewN k) o d4
  have a5 : ∀ k o, ((w.drewN k).alloc o).cell? ⟨g, 14, none⟩ = some (.int .u32 r0) := fun k o => cell?_alloc_old (W := w.drewN k) o d5
  have a6 : ∀ k o, ((w.drewN k).alloc o).cell? ⟨g, 15, none⟩ = some (.int .u32 r1) := fun k o => cell?_alloc_old (W := w.drewN k) o d6
  have a7 : ∀ k o, ((w.drewN k).alloc o).cell? ⟨g, 16, none⟩ = some (.int .u32 r2) := fun k o => cell?_alloc_old (W := w.drewN k) o d7
  have a8 : ∀ k o, ((w.drewN k).alloc o).cell? ⟨g, 17, none⟩ = some (.int .u32 r3) := fun k o => cell?_alloc_old (W := w.drewN k) o d8
  have a11 : ∀ k o, ((w.drewN k).alloc o).cell? ⟨g, 11, none⟩ = some (.int .i64 len) := fun k o => cell?_alloc_old (W := w.drewN k) o c11
  have a12 : ∀ k o, ((w.drewN k).alloc o).cell? ⟨g, 12, none⟩ = some (.int .i64 dist) := fun k o => cell?_alloc_old (W := w.drewN k) o c12
  obtain ⟨v13, e13⟩ := hcells 13 (by omega)
  have x13 : ∀ k o, ((w.drewN k).alloc o).cell? ⟨g, 13, none⟩ = some v13 := fun k o => cell?_alloc_old (W := w.drewN k) o e13
  have f13 : ∀ k c, ((w.drewN k).alloc (.cells c 23)).frozen? ⟨g, 13, none⟩ = false := fun k c => (frozen?_alloc_cells (w.drewN k) c 23 _).trans (hfree 13)
  obtain ⟨v14, e14⟩ := hcells 14 (by omega)
  have x14 : ∀ k o, ((w.drewN k).alloc o).cell? ⟨g, 14, none⟩ = some v14 := fun k o => cell?_alloc_old (W := w.drewN k) o e14
  have f14 : ∀ k c, ((w.drewN k).alloc (.cells c 23)).frozen? ⟨g, 14, none⟩ = false := fun k c => (frozen?_alloc_cells (w.drewN k) c 23 _).trans (hfree 14)
  obtain ⟨v15, e15⟩ := hcells 15 (by omega)
  have x15 : ∀ k o, ((w.drewN k).alloc o).cell? ⟨g, 15, none⟩ = some v15 := fun k o => cell?_alloc_old (W := w.drewN k) o e15
  have f15 : ∀ k c, ((w.drewN k).alloc (.cells c 23)).frozen? ⟨g, 15, none⟩ = false := fun k c => (frozen?_alloc_cells (w.drewN k) c 23 _).trans (hfree 15)
  obtain ⟨v16, e16⟩ := hcells 16 (by omega)
  have x16 : ∀ k o, ((w.drewN k).alloc o).cell? ⟨g, 16, none⟩ = some v16 := fun k o => cell?_alloc_old (W := w.drewN k) o e16
  have f16 : ∀ k c, ((w.drewN k).alloc (.cells c 23)).frozen? ⟨g, 16, none⟩ = false := fun k c => (frozen?_alloc_cells (w.drewN k) c 23 _).trans (hfree 16)
  obtain ⟨v17, e17⟩ := hcells 17 (by omega)
  have x17 : ∀ k o, ((w.drewN k).alloc o).cell? ⟨g, 17, none⟩ = some v17 := fun k o => cell?_alloc_old (W := w.drewN k) o e17
  have f17 : ∀ k c, ((w.drewN k).alloc (.cells c 23)).frozen? ⟨g, 17, none⟩ = false := fun k c => (frozen?_alloc_cells (w.drewN k) c 23 _).trans (hfree 17)
  have n0 : ∀ k c j, ((w.drewN k).alloc (.cells c 23)).cell? ⟨w.heap.size, j, none⟩ = c[j]? := fun k c j => World.cell?_alloc_at (w := w.drewN k) c 23 _ j rfl
  have n1 : ∀ k c j v, ((w.drewN k).alloc (.cells c 23)).setCell ⟨w.heap.size, j, none⟩ v = (w.drewN k).alloc (.cells (c.setIfInBounds j v) 23) := fun k c j v => World.setCell_alloc_at (w := w.drewN k) c 23 _ j v rfl
  have n2 : ∀ k c j, ((w.drewN k).alloc (.cells c 23)).frozen? ⟨w.heap.size, j, none⟩ = false := fun k c j => World.frozen?_alloc_at (w := w.drewN k) c 23 _ j rfl
  have at0 : ∀ k o, ((w.drewN k).alloc o).cell? ⟨2, s, none⟩ = some (.int .u32 t) := fun k o => cell?_alloc_old (W := w.drewN k) o ht
  have hcp : ∀ m, (Builtin.copy_ #[28, 28] 3 #[.slice (some ⟨w.heap.size, 1, none⟩) 2 3, .slice (some ⟨w.heap.size, 0, none⟩) 2 4]).run Ybad.prog ((w.drewN m).alloc (.cells #[.int .u32 r0, .int .u32 r1, .int .u32 r2, .int .u32 r3] 23)) = .ok (.int .i64 2) ((w.drewN m).alloc (.cells #[.int .u32 r0, .int .u32 r0, .int .u32 r1, .int .u32 r3] 23)) := fun m => by
    have h := run_copy_cells (P := Ybad.prog) ((w.drewN m).alloc (.cells #[.int .u32 r0, .int .u32 r1, .int .u32 r2, .int .u32 r3] 23)) 28 28 3 22 w.heap.size 1 2 3 ⟨w.heap.size, 0, none⟩ 2 4 [.int .u32 r0, .int .u32 r1] Ybad.underlying28 Ybad.size22 rfl ?_ ?_ ?_ ?_
    · rw [h]
      simp only [World.setCells, n1]
      rfl
    · intro j v hj
      rw [Addr.add_lit, n0, Nat.zero_add]
      match j, hj with
      | 0, hj => simpa using hj
      | 1, hj => simpa using hj
    · intro j hj
      rw [n0]
      match j, hj with
      | 0, hj => rfl
      | 1, hj => rfl
    · intro j hj; exact n2 _ _ _
    · intro v hv
      simp at hv
      rcases hv with rfl | rfl <;> rfl
  have hcp2 : ∀ m, (Builtin.copy_ #[28, 28] 3 #[.slice (some ⟨w.heap.size, 1, none⟩) 2 3, .slice (some ⟨w.heap.size, 0, none⟩) 2 4]).run Ybad.prog ((w.drewN m).alloc (.cells #[.int .u32 r0, .int .u32 r1, .int .u32 r2, .int .u32 r3] 23)).drew = .ok (.int .i64 2) ((w.drewN m).alloc (.cells #[.int .u32 r0, .int .u32 r0, .int .u32 r1, .int .u32 r3] 23)).drew := fun m => hcp (m + 1)
  have HC : Hid (∀ j, j < 18 → ∃ v, w.cell? ⟨g, j, none⟩ = some v) := hcells
  have hg : g < w.heap.size := World.block_lt_of_cell? _ _ c10
  clear hcells
  clear hfree e13 e14 e15 e16 e17
  go_enter Ybad.func4, Ybad.ntmps4
  go_upto_region 1 with fail
  go_quiet (fail)
  go_upto_region 2 with fail
  go_region
  go_wp2_with fail
  refine (rep_walk w.heap.size 0 r0 r1 r2 r3 d _ (n0 _ _ 0) (n0 _ _ 1) (n0 _ _ 2) (n0 _ _ 3)).mono ?_
  rintro e w1 ⟨rfl, n, rfl⟩
  rw [hk, alloc_drewN']
  go_upto_region 6 with fail
  go_region
  go_wp2
  go_end0
  exact ⟨rfl, (left_of ((below_drewN (Below.refl _ _) _).alloc (Nat.le_refl _) _) hg HC.out (set1 _ _ _ _) (set1 _ _ _ _) (set1 _ _ _ _) (set1 _ _ _ _) (set1 _ _ _ _)).drew⟩

set_option maxHeartbeats 2000000 in
theorem arr_rep31 (pb g s : Nat) (r0 r1 r2 r3 len dist t : Int) (w : World)
    (hP : w.cell? ⟨pb, 9502, none⟩ = some (.slice (some ⟨g, 0, none⟩) 2 2))
    (c10 : w.cell? ⟨g, 10, none⟩ = some (.int .i64 1)) (c11 : w.cell? ⟨g, 11, none⟩ = some (.int .i64 len)) (c12 : w.cell? ⟨g, 12, none⟩ = some (.int .i64 dist))
    (hs : s < 12) (d4 : w.cell? ⟨g, 13, none⟩ = some (.int .u32 s)) (d5 : w.cell? ⟨g, 14, none⟩ = some (.int .u32 r0)) (d6 : w.cell? ⟨g, 15, none⟩ = some (.int .u32 r1)) (d7 : w.cell? ⟨g, 16, none⟩ = some (.int .u32 r2)) (d8 : w.cell? ⟨g, 17, none⟩ = some (.int .u32 r3))
    (hcells : ∀ j, j < 18 → ∃ v, w.cell? ⟨g, j, none⟩ = some v) (hfree : ∀ j, w.frozen? ⟨g, j, none⟩ = false) (d : Int) (hd : (dist == 0) = false) (hl : (len == 1) = false) (hw : wrap64 (dist - 1) % 4294967296 = d) (hk : firstAt r0 r1 r2 r3 d = 3) (ht : w.cell? ⟨2, s, none⟩ = some (.int .u32 t)) :
    Calls Ybad.prog 4 #[.pointer (some ⟨pb, 0, none⟩), .int .i64 1] w fun e w' => e = .returned (.tuple #[]) ∧ Left g t d r0 r1 r2 w w' := by
  have hsi : (s : Int) < 12 := by omega
  have a4 : ∀ k o, ((w.drewN k).alloc o).cell? ⟨g, 13, none⟩ = some (.int .u32 s) := fun k o => cell?_alloc_old (W := w.drewN k) o d4
  have a5 : ∀ k o, ((w.drewN k).alloc o).cell? ⟨g, 14, none⟩ = some (.int .u32 r0) := fun k o => cell?_alloc_old (W := w.drewN k) o d5
  have a6 : ∀ k o, ((w.drewN k).alloc o).cell? ⟨g, 15, none⟩ = some (.int .u32 r1) := fun k o => cell?_alloc_old (W := w.drewN k) o d6
  have a7 : ∀ k o, ((w.drewN k).alloc o).cell? ⟨g, 16, none⟩ = some (.int .u32 r2) := fun k o => cell?_alloc_old (W := w.drewN k) o d7
  have a8 : ∀ k o, ((w.drewN k).alloc o).cell? ⟨g, 17, none⟩ = some (.int .u32 r3) := fun k o => cell?_alloc_old (W := w.drewN k) o d8
  have a11 : ∀ k o, ((w.drewN k).alloc o).cell? ⟨g, 11, none⟩ = some (.int .i64 len) := fun k o => cell?_alloc_old (W := w.drewN k) o c11
  have a12 : ∀ k o, ((w.drewN k).alloc o).cell? ⟨g, 12, none⟩ = some (.int .i64 dist) := fun k o => cell?_alloc_old (W := w.drewN k) o c12
  obtain ⟨v13, e13⟩ := hcells 13 (by omega)
  have x13 : ∀ k o, ((w.drewN k).alloc o).cell? ⟨g, 13, none⟩ = some v13 := fun k o => cell?_alloc_old (W := w.drewN k) o e13
  have f13 : ∀ k c, ((w.drewN k).alloc (.cells c 23)).frozen? ⟨g, 13, none⟩ = false := fun k c => (frozen?_alloc_cells (w.drewN k) c 23 _).trans (hfree 13)
  obtain ⟨v14, e14⟩ := hcells 14 (by omega)
  have x14 : ∀ k o, ((w.drewN k).alloc o).cell? ⟨g, 14, none⟩ = some v14 := fun k o => cell?_alloc_old (W := w.drewN k) o e14
  have f14 : ∀ k c, ((w.drewN k).alloc (.cells c 23)).frozen? ⟨g, 14, none⟩ = false := fun k c => (frozen?_alloc_cells (w.drewN k) c 23 _).trans (hfree 14)
  obtain ⟨v15, e15⟩ := hcells 15 (by omega)
  have x15 : ∀ k o, ((w.drewN k).alloc o).cell? ⟨g, 15, none⟩ = some v15 := fun k o => cell?_alloc_old (W := w.drewN k) o e15
  have f15 : ∀ k c, ((w.drewN k).alloc (.cells c 23)).frozen? ⟨g, 15, none⟩ = false := fun k c => (frozen?_alloc_cells (w.drewN k) c 23 _).trans (hfree 15)
  obtain ⟨v16, e16⟩ := hcells 16 (by omega)
  have x16 : ∀ k o, ((w.drewN k).alloc o).cell? ⟨g, 16, none⟩ = some v16 := fun k o => cell?_alloc_old (W := w.drewN k) o e16
  have f16 : ∀ k c, ((w.drewN k).alloc (.cells c 23)).frozen? ⟨g, 16, none⟩ = false := fun k c => (frozen?_alloc_cells (w.drewN k) c 23 _).trans (hfree 16)
  obtain ⟨v17, e17⟩ := hcells 17 (by omega)
  have x17 : ∀ k o, ((w.drewN k).alloc o).cell? ⟨g, 17, none⟩ = some v17 := fun k o => cell?_alloc_old (W := w.drewN k) o e17
  have f17 : ∀ k c, ((w.drewN k).alloc (.cells c 23)).frozen? ⟨g, 17, none⟩ = false := fun k c => (frozen?_alloc_cells (w.drewN k) c 23 _).trans (hfree 17)
  have n0 : ∀ k c j, ((w.drewN k).alloc (.cells c 23)).cell? ⟨w.heap.size, j, none⟩ = c[j]? := fun k c j => World.cell?_alloc_at (w := w.drewN k) c 23 _ j rfl
  have n1 : ∀ k c j v, ((w.drewN k).alloc (.cells c 23)).setCell ⟨w.heap.size, j, none⟩ v = (w.drewN k).alloc (.cells (c.setIfInBounds j v) 23) := fun k c j v => World.setCell_alloc_at (w := w.drewN k) c 23 _ j v rfl
  have n2 : ∀ k c j, ((w.drewN k).alloc (.cells c 23)).frozen? ⟨w.heap.size, j, none⟩ = false := fun k c j => World.frozen?_alloc_at (w := w.drewN k) c 23 _ j rfl
  have at0 : ∀ k o, ((w.drewN k).alloc o).cell? ⟨2, s, none⟩ = some (.int .u32 t) := fun k o => cell?_alloc_old (W := w.drewN k) o ht
  have hcp : ∀ m, (Builtin.copy_ #[28, 28] 3 #[.slice (some ⟨w.heap.size, 1, none⟩) 3 3, .slice (some ⟨w.heap.size, 0, none⟩) 3 4]).run Ybad.prog ((w.drewN m).alloc (.cells #[.int .u32 r0, .int .u32 r1, .int .u32 r2, .int .u32 r3] 23)) = .ok (.int .i64 3) ((w.drewN m).alloc (.cells #[.int .u32 r0, .int .u32 r0, .int .u32 r1, .int .u32 r2] 23)) := fun m => by
    have h := run_copy_cells (P := Ybad.prog) ((w.drewN m).alloc (.cells #[.int .u32 r0, .int .u32 r1, .int .u32 r2, .int .u32 r3] 23)) 28 28 3 22 w.heap.size 1 3 3 ⟨w.heap.size, 0, none⟩ 3 4 [.int .u32 r0, .int .u32 r1, .int .u32 r2] Ybad.underlying28 Ybad.size22 rfl ?_ ?_ ?_ ?_
    · rw [h]
      simp only [World.setCells, n1]
      rfl
    · intro j v hj
      rw [Addr.add_lit, n0, Nat.zero_add]
      match j, hj with
      | 0, hj => simpa using hj
      | 1, hj => simpa using hj
      | 2, hj => simpa using hj
    · intro j hj
      rw [n0]
      match j, hj with
      | 0, hj => rfl
      | 1, hj => rfl
      | 2, hj => rfl
    · intro j hj; exact n2 _ _ _
    · intro v hv
      simp at hv
      rcases hv with rfl | rfl | rfl <;> rfl
  have hcp2 : ∀ m, (Builtin.copy_ #[28, 28] 3 #[.slice (some ⟨w.heap.size, 1, none⟩) 3 3, .slice (some ⟨w.heap.size, 0, none⟩) 3 4]).run Ybad.prog ((w.drewN m).alloc (.cells #[.int .u32 r0, .int .u32 r1, .int .u32 r2, .int .u32 r3] 23)).drew = .ok (.int .i64 3) ((w.drewN m).alloc (.cells #[.int .u32 r0, .int .u32 r0, .int .u32 r1, .int .u32 r2] 23)).drew := fun m => hcp (m + 1)
  have HC : Hid (∀ j, j < 18 → ∃ v, w.cell? ⟨g, j, none⟩ = some v) := hcells
  have hg : g < w.heap.size := World.block_lt_of_cell? _ _ c10
  clear hcells
  clear hfree e13 e14 e15 e16 e17
  go_enter Ybad.func4, Ybad.ntmps4
  go_upto_region 1 with fail
  go_quiet (fail)
  go_upto_region 2 with fail
  go_region
  go_wp2_with fail
  refine (rep_walk w.heap.size 0 r0 r1 r2 r3 d _ (n0 _ _ 0) (n0 _ _ 1) (n0 _ _ 2) (n0 _ _ 3)).mono ?_
  rintro e w1 ⟨rfl, n, rfl⟩
  rw [hk, alloc_drewN']
  go_upto_region 6 with fail
  go_region
  go_wp2
  go_end0
  exact ⟨rfl, (left_of ((below_drewN (Below.refl _ _) _).alloc (Nat.le_refl _) _) hg HC.out (set1 _ _ _ _) (set1 _ _ _ _) (set1 _ _ _ _) (set1 _ _ _ _) (set1 _ _ _ _)).drew⟩

set_option maxHeartbeats 2000000 in
theorem arr_new0 (pb g s : Nat) (r0 r1 r2 r3 len dist t : Int) (w : World)
    (hP : w.cell? ⟨pb, 9502, none⟩ = some (.slice (some ⟨g, 0, none⟩) 2 2))
    (c10 : w.cell? ⟨g, 10, none⟩ = some (.int .i64 0)) (c11 : w.cell? ⟨g, 11, none⟩ = some (.int .i64 len)) (c12 : w.cell? ⟨g, 12, none⟩ = some (.int .i64 dist))
    (hs : s < 12) (d4 : w.cell? ⟨g, 4, none⟩ = some (.int .u32 s)) (d5 : w.cell? ⟨g, 5, none⟩ = some (.int .u32 r0)) (d6 : w.cell? ⟨g, 6, none⟩ = some (.int .u32 r1)) (d7 : w.cell? ⟨g, 7, none⟩ = some (.int .u32 r2)) (d8 : w.cell? ⟨g, 8, none⟩ = some (.int .u32 r3))
    (hcells : ∀ j, j < 18 → ∃ v, w.cell? ⟨g, j, none⟩ = some v) (hfree : ∀ j, w.frozen? ⟨g, j, none⟩ = false) (d : Int) (hd : (dist == 0) = false) (hl : (len == 1) = false) (hw : wrap64 (dist - 1) % 4294967296 = d) (hk : firstAt r0 r1 r2 r3 d = -1) (ht : w.cell? ⟨3, s, none⟩ = some (.int .u32 t)) :
    Calls Ybad.prog 4 #[.pointer (some ⟨pb, 0, none⟩), .int .i64 1] w fun e w' => e = .returned (.tuple #[]) ∧ Left g t d r0 r1 r2 w w' := by
  have hsi : (s : Int) < 12 := by omega
  have a4 : ∀ k o, ((w.drewN k).alloc o).cell? ⟨g, 4, none⟩ = some (.int .u32 s) := fun k o => cell?_alloc_old (W := w.drewN k) o d4
  have a5 : ∀ k o, ((w.drewN k).alloc o).cell? ⟨g, 5, none⟩ = some (.int .u32 r0) := fun k o => cell?_alloc_old (W := w.drewN k) o d5
  have a6 : ∀ k o, ((w.drewN k).alloc o).cell? ⟨g, 6, none⟩ = some (.int .u32 r1) := fun k o => cell?_alloc_old (W := w.drewN k) o d6
  have a7 : ∀ k o, ((w.drewN k).alloc o).cell? ⟨g, 7, none⟩ = some (.int .u32 r2) := fun k o => cell?_alloc_old (W := w.drewN k) o d7
  have a8 : ∀ k o, ((w.drewN k).alloc o).cell? ⟨g, 8, none⟩ = some (.int .u32 r3) := fun k o => cell?_alloc_old (W := w.drewN k) o d8
  have a11 : ∀ k o, ((w.drewN k).alloc o).cell? ⟨g, 11, none⟩ = some (.int .i64 len) := fun k o => cell?_alloc_old (W := w.drewN k) o c11
  have a12 : ∀ k o, ((w.drewN k).alloc o).cell? ⟨g, 12, none⟩ = some (.int .i64 dist) := fun k o => cell?_alloc_old (W := w.drewN k) o c12
  obtain ⟨v13, e13⟩ := hcells 13 (by omega)
  have x13 : ∀ k o, ((w.drewN k).alloc o).cell? ⟨g, 13, none⟩ = some v13 := fun k o => cell?_alloc_old (W := w.drewN k) o e13
  have f13 : ∀ k c, ((w.drewN k).alloc (.cells c 23)).frozen? ⟨g, 13, none⟩ = false := fun k c => (frozen?_alloc_cells (w.drewN k) c 23 _).trans (hfree 13)
  obtain ⟨v14, e14⟩ := hcells 14 (by omega)
  have x14 : ∀ k o, ((w.drewN k).alloc o).cell? ⟨g, 14, none⟩ = some v14 := fun k o => cell?_alloc_old (W := w.drewN k) o e14
  have f14 : ∀ k c, ((w.drewN k).alloc (.cells c 23)).frozen? ⟨g, 14, none⟩ = false := fun k c => (frozen?_alloc_cells (w.drewN k) c 23 _).trans (hfree 14)
  obtain ⟨v15, e15⟩ := hcells 15 (by omega)
  have x15 : ∀ k o, ((w.drewN k).alloc o).cell? ⟨g, 15, none⟩ = some v15 := fun k o => cell?_alloc_old (W := w.drewN k) o e15
  have f15 : ∀ k c, ((w.drewN k).alloc (.cells c 23)).frozen? ⟨g, 15, none⟩ = false := fun k c => (frozen?_alloc_cells (w.drewN k) c 23 _).trans (hfree 15)
  obtain ⟨v16, e16⟩ := hcells 16 (by omega)
  have x16 : ∀ k o, ((w.drewN k).alloc o).cell? ⟨g, 16, none⟩ = some v16 := fun k o => cell?_alloc_old (W := w.drewN k) o e16
  have f16 : ∀ k c, ((w.drewN k).alloc (.cells c 23)).frozen? ⟨g, 16, none⟩ = false := fun k c => (frozen?_alloc_cells (w.drewN k) c 23 _).trans (hfree 16)
  obtain ⟨v17, e17⟩ := hcells 17 (by omega)
  have x17 : ∀ k o, ((w.drewN k).alloc o).cell? ⟨g, 17, none⟩ = some v17 := fun k o => cell?_alloc_old (W := w.drewN k) o e17
  have f17 : ∀ k c, ((w.drewN k).alloc (.cells c 23)).frozen? ⟨g, 17, none⟩ = false := fun k c => (frozen?_alloc_cells (w.drewN k) c 23 _).trans (hfree 17)
  have n0 : ∀ k c j, ((w.drewN k).alloc (.cells c 23)).cell? ⟨w.heap.size, j, none⟩ = c[j]? := fun k c j => World.cell?_alloc_at (w := w.drewN k) c 23 _ j rfl
  have n1 : ∀ k c j v, ((w.drewN k).alloc (.cells c 23)).setCell ⟨w.heap.size, j, none⟩ v = (w.drewN k).alloc (.cells (c.setIfInBounds j v) 23) := fun k c j v => World.setCell_alloc_at (w := w.drewN k) c 23 _ j v rfl
  have n2 : ∀ k c j, ((w.drewN k).alloc (.cells c 23)).frozen? ⟨w.heap.size, j, none⟩ = false := fun k c j => World.frozen?_alloc_at (w := w.drewN k) c 23 _ j rfl
  have at0 : ∀ k o, ((w.drewN k).alloc o).cell? ⟨3, s, none⟩ = some (.int .u32 t) := fun k o => cell?_alloc_old (W := w.drewN k) o ht
  have HC : Hid (∀ j, j < 18 → ∃ v, w.cell? ⟨g, j, none⟩ = some v) := hcells
  have hg : g < w.heap.size := World.block_lt_of_cell? _ _ c10
  clear hcells
  clear hfree e13 e14 e15 e16 e17
  go_enter Ybad.func4, Ybad.ntmps4
  go_upto_region 1 with fail
  go_quiet (fail)
  go_upto_region 2 with fail
  go_region
  go_wp2_with fail
  refine (rep_walk w.heap.size 0 r0 r1 r2 r3 d _ (n0 _ _ 0) (n0 _ _ 1) (n0 _ _ 2) (n0 _ _ 3)).mono ?_
  rintro e w1 ⟨rfl, n, rfl⟩
  rw [hk, alloc_drewN']
  go_upto_region 8 with fail
  go_region
  go_wp2
  go_end0
  exact ⟨rfl, (left_of ((below_drewN (Below.refl _ _) _).alloc (Nat.le_refl _) _) hg HC.out (set1 _ _ _ _) (set1 _ _ _ _) (set1 _ _ _ _) (set1 _ _ _ _) (set1 _ _ _ _)).drew⟩

set_option maxHeartbeats 2000000 in
theorem arr_new1 (pb g s : Nat) (r0 r1 r2 r3 len dist t : Int) (w : World)
    (hP : w.cell? ⟨pb, 9502, none⟩ = some (.slice (some ⟨g, 0, none⟩) 2 2))
    (c10 : w.cell? ⟨g, 10, none⟩ = some (.int .i64 1)) (c11 : w.cell? ⟨g, 11, none⟩ = some (.int .i64 len)) (c12 : w.cell? ⟨g, 12, none⟩ = some (.int .i64 dist))
    (hs : s < 12) (d4 : w.cell? ⟨g, 13, none⟩ = some (.int .u32 s)) (d5 : w.cell? ⟨g, 14, none⟩ = some (.int .u32 r0)) (d6 : w.cell? ⟨g, 15, none⟩ = some (.int .u32 r1)) (d7 : w.cell? ⟨g, 16, none⟩ = some (.int .u32 r2)) (d8 : w.cell? ⟨g, 17, none⟩ = some (.int .u32 r3))
    (hcells : ∀ j, j < 18 → ∃ v, w.cell? ⟨g, j, none⟩ = some v) (hfree : ∀ j, w.frozen? ⟨g, j, none⟩ = false) (d : Int) (hd : (dist == 0) = false) (hl : (len == 1) = false) (hw : wrap64 (dist - 1) % 4294967296 = d) (hk : firstAt r0 r1 r2 r3 d = -1) (ht : w.cell? ⟨3, s, none⟩ = some (.int .u32 t)) :
    Calls Ybad.prog 4 #[.pointer (some ⟨pb, 0, none⟩), .int .i64 1] w fun e w' => e = .returned (.tuple #[]) ∧ Left g t d r0 r1 r2 w w' := by
  have hsi : (s : Int) < 12 := by omega
  have a4 : ∀ k o, ((w.drewN k).alloc o).cell? ⟨g, 13, none⟩ = some (.int .u32 s) := fun k o => cell?_alloc_old (W := w.drewN k) o d4
  have a5 : ∀ k o, ((w.drewN k).alloc o).cell? ⟨g, 14, none⟩ = some (.int .u32 r0) := fun k o => cell?_alloc_old (W := w.drewN k) o d5
  have a6 : ∀ k o, ((w.drewN k).alloc o).cell? ⟨g, 15, none⟩ = some (.int .u32 r1) := fun k o => cell?_alloc_old (W := w.drewN k) o d6
  have a7 : ∀ k o, ((w.drewN k).alloc o).cell? ⟨g, 16, none⟩ = some (.int .u32 r2) := fun k o => cell?_alloc_old (W := w.drewN k) o d7
  have a8 : ∀ k o, ((w.drewN k).alloc o).cell? ⟨g, 17, none⟩ = some (.int .u32 r3) := fun k o => cell?_alloc_old (W := w.drewN k) o d8
  have a11 : ∀ k o, ((w.drewN k).alloc o).cell? ⟨g, 11, none⟩ = some (.int .i64 len) := fun k o => cell?_alloc_old (W := w.drewN k) o c11
  have a12 : ∀ k o, ((w.drewN k).alloc o).cell? ⟨g, 12, none⟩ = some (.int .i64 dist) := fun k o => cell?_alloc_old (W := w.drewN k) o c12
  obtain ⟨v13, e13⟩ := hcells 13 (by omega)
  have x13 : ∀ k o, ((w.drewN k).alloc o).cell? ⟨g, 13, none⟩ = some v13 := fun k o => cell?_alloc_old (W := w.drewN k) o e13
  have f13 : ∀ k c, ((w.drewN k).alloc (.cells c 23)).frozen? ⟨g, 13, none⟩ = false := fun k c => (frozen?_alloc_cells (w.drewN k) c 23 _).trans (hfree 13)
  obtain ⟨v14, e14⟩ := hcells 14 (by omega)
  have x14 : ∀ k o, ((w.drewN k).alloc o).cell? ⟨g, 14, none⟩ = some v14 := fun k o => cell?_alloc_old (W := w.drewN k) o e14
  have f14 : ∀ k c, ((w.drewN k).alloc (.cells c 23)).frozen? ⟨g, 14, none⟩ = false := fun k c => (frozen?_alloc_cells (w.drewN k) c 23 _).trans (hfree 14)
  obtain ⟨v15, e15⟩ := hcells 15 (by omega)
  have x15 : ∀ k o, ((w.drewN k).alloc o).cell? ⟨g, 15, none⟩ = some v15 := fun k o => cell?_alloc_old (W := w.drewN k) o e15
  have f15 : ∀ k c, ((w.drewN k).alloc (.cells c 23)).frozen? ⟨g, 15, none⟩ = false := fun k c => (frozen?_alloc_cells (w.drewN k) c 23 _).trans (hfree 15)
  obtain ⟨v16, e16⟩ := hcells 16 (by omega)
  have x16 : ∀ k o, ((w.drewN k).alloc o).cell? ⟨g, 16, none⟩ = some v16 := fun k o => cell?_alloc_old (W := w.drewN k) o e16
  have f16 : ∀ k c, ((w.drewN k).alloc (.cells c 23)).frozen? ⟨g, 16, none⟩ = false := fun k c => (frozen?_alloc_cells (w.drewN k) c 23 _).trans (hfree 16)
  obtain ⟨v17, e17⟩ := hcells 17 (by omega)
  have x17 : ∀ k o, ((w.drewN k).alloc o).cell? ⟨g, 17, none⟩ = some v17 := fun k o => cell?_alloc_old (W := w.drewN k) o e17
  have f17 : ∀ k c, ((w.drewN k).alloc (.cells c 23)).frozen? ⟨g, 17, none⟩ = false := fun k c => (frozen?_alloc_cells (w.drewN k) c 23 _).trans (hfree 17)
  have n0 : ∀ k c j, ((w.drewN k).alloc (.cells c 23)).cell? ⟨w.heap.size, j, none⟩ = c[j]? := fun k c j => World.cell?_alloc_at (w := w.drewN k) c 23 _ j rfl
  have n1 : ∀ k c j v, ((w.drewN k).alloc (.cells c 23)).setCell ⟨w.heap.size, j, none⟩ v = (w.drewN k).alloc (.cells (c.setIfInBounds j v) 23) := fun k c j v => World.setCell_alloc_at (w := w.drewN k) c 23 _ j v rfl
  have n2 : ∀ k c j, ((w.drewN k).alloc (.cells c 23)).frozen? ⟨w.heap.size, j, none⟩ = false := fun k c j => World.frozen?_alloc_at (w := w.drewN k) c 23 _ j rfl
  have at0 : ∀ k o, ((w.drewN k).alloc o).cell? ⟨3, s, none⟩ = some (.int .u32 t) := fun k o => cell?_alloc_old (W := w.drewN k) o ht
  have HC : Hid (∀ j, j < 18 → ∃ v, w.cell? ⟨g, j, none⟩ = some v) := hcells
  have hg : g < w.heap.size := World.block_lt_of_cell? _ _ c10
  clear hcells
  clear hfree e13 e14 e15 e16 e17
  go_enter Ybad.func4, Ybad.ntmps4
  go_upto_region 1 with fail
  go_quiet (fail)
  go_upto_region 2 with fail
  go_region
  go_wp2_with fail
  refine (rep_walk w.heap.size 0 r0 r1 r2 r3 d _ (n0 _ _ 0) (n0 _ _ 1) (n0 _ _ 2) (n0 _ _ 3)).mono ?_
  rintro e w1 ⟨rfl, n, rfl⟩
  rw [hk, alloc_drewN']
  go_upto_region 8 with fail
  go_region
  go_wp2
  go_end0
  exact ⟨rfl, (left_of ((below_drewN (Below.refl _ _) _).alloc (Nat.le_refl _) _) hg HC.out (set1 _ _ _ _) (set1 _ _ _ _) (set1 _ _ _ _) (set1 _ _ _ _) (set1 _ _ _ _)).drew⟩

end Go.Proofs.YbulkbngDoor
