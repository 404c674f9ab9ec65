/-
  DERIVED. THE WALK: (*parser).arrive (4).
-/
import Derived.Test.YbulkbngDoorRep
import Derived.Deep.DeepCutAuto
import Derived.Deep.RegionWith
import Derived.RowKit3
import Derived.WalkSmall
import Derived.Laws.IdiomCopy
import Derived.Stop.LaidErr
namespace Go.Proofs.YbulkbngDoor
open Go.RowKit Go.Stop

/-- What arrive leaves: node 1's state and distances; nothing else has turned. -/
structure Left (g : Nat) (s r0 r1 r2 r3 : Int) (w w' : World) : Prop where
  state : w'.cell? ⟨g, 13, none⟩ = some (.int .u32 s)
  rep0 : w'.cell? ⟨g, 14, none⟩ = some (.int .u32 r0)
  rep1 : w'.cell? ⟨g, 15, none⟩ = some (.int .u32 r1)
  rep2 : w'.cell? ⟨g, 16, none⟩ = some (.int .u32 r2)
  rep3 : w'.cell? ⟨g, 17, none⟩ = some (.int .u32 r3)
  other : ∀ j, j < 13 → w'.cell? ⟨g, j, none⟩ = w.cell? ⟨g, j, none⟩
  os : w'.os = w.os
  tape : w'.tape = w.tape
  output : w'.output = w.output
  size : w.heap.size ≤ w'.heap.size
  block : ∀ k, k < w.heap.size → k ≠ g → w'.heap[k]? = w.heap[k]?

/-- One cell of block g set: what stands of the rest. -/
structure Set1 (g i : Nat) (v : Value) (w w' : World) : Prop where
  here : (∃ u, w.cell? ⟨g, i, none⟩ = some u) → w'.cell? ⟨g, i, none⟩ = some v
  other : ∀ j, j ≠ i → w'.cell? ⟨g, j, none⟩ = w.cell? ⟨g, j, none⟩
  os : w'.os = w.os
  tape : w'.tape = w.tape
  output : w'.output = w.output
  size : w'.heap.size = w.heap.size
  block : ∀ k, k ≠ g → w'.heap[k]? = w.heap[k]?

theorem set1 (g i : Nat) (v : Value) (w : World) : Set1 g i v w (w.setCell ⟨g, i, none⟩ v) :=
  ⟨fun ⟨_, h⟩ => World.cell?_setCell_same _ _ _ h, fun j h => World.cell?_setCell_other _ _ _ _ (by simp <;> omega), rfl, rfl, rfl, by simp, fun k hk => Below.heap_setCell _ _ _ _ (by exact hk)⟩

theorem left_of {g : Nat} {s a b c d : Int} {w w1 w2 w3 w4 w5 w6 : World} (hb : Below w.heap.size w w1) (hg : g < w.heap.size) (hc : ∀ j, j < 18 → ∃ v, w.cell? ⟨g, j, none⟩ = some v)
    (h2 : Set1 g 13 (.int .u32 s) w1 w2) (h3 : Set1 g 14 (.int .u32 a) w2 w3) (h4 : Set1 g 15 (.int .u32 b) w3 w4) (h5 : Set1 g 16 (.int .u32 c) w4 w5) (h6 : Set1 g 17 (.int .u32 d) w5 w6) : Left g s a b c d w w6 := by
  have key : ∀ j, w1.cell? ⟨g, j, none⟩ = w.cell? ⟨g, j, none⟩ := fun j => hb.cell (by exact hg)
  have e13 := hc 13 (by omega)
  have e14 := hc 14 (by omega)
  have e15 := hc 15 (by omega)
  have e16 := hc 16 (by omega)
  have e17 := hc 17 (by omega)
  rw [← key] at e13 e14 e15 e16 e17
  refine ⟨?_, ?_, ?_, ?_, ?_, ?_, ?_, ?_, ?_, ?_, ?_⟩
  · rw [h6.other 13 (by omega), h5.other 13 (by omega), h4.other 13 (by omega), h3.other 13 (by omega)]; exact h2.here e13
  · rw [h6.other 14 (by omega), h5.other 14 (by omega), h4.other 14 (by omega)]; exact h3.here (by rw [h2.other 14 (by omega)]; exact e14)
  · rw [h6.other 15 (by omega), h5.other 15 (by omega)]; exact h4.here (by rw [h3.other 15 (by omega), h2.other 15 (by omega)]; exact e15)
  · rw [h6.other 16 (by omega)]; exact h5.here (by rw [h4.other 16 (by omega), h3.other 16 (by omega), h2.other 16 (by omega)]; exact e16)
  · exact h6.here (by rw [h5.other 17 (by omega), h4.other 17 (by omega), h3.other 17 (by omega), h2.other 17 (by omega)]; exact e17)
  · intro j hj
    rw [h6.other j (by omega), h5.other j (by omega), h4.other j (by omega), h3.other j (by omega), h2.other j (by omega), key]
  · rw [h6.os, h5.os, h4.os, h3.os, h2.os]; exact hb.os
  · rw [h6.tape, h5.tape, h4.tape, h3.tape, h2.tape]; exact hb.tape
  · rw [h6.output, h5.output, h4.output, h3.output, h2.output]; exact hb.output
  · rw [h6.size, h5.size, h4.size, h3.size, h2.size]; exact hb.size
  · intro k hk hne
    rw [h6.block k hne, h5.block k hne, h4.block k hne, h3.block k hne, h2.block k hne]; exact hb.block k hk

theorem Ybad.size22 : (Ybad.prog.info? 22).map (·.size) = some 1 := by kernel_rfl

theorem alloc_drewN' (w : World) (m n : Nat) (o : Obj) : ((w.drewN m).alloc o).drewN n = (w.drewN (m + n)).alloc o := by
  show ({ (w.drewN m).alloc o with drawn := w.drawn + m + n } : World) = { (w.drewN m).alloc o with drawn := w.drawn + (m + n) }
  rw [Nat.add_assoc]

set_option maxHeartbeats 2000000 in
theorem arr_lit0 (pb g s : Nat) (r0 r1 r2 r3 len dist t : Int) (w : World)
    (hP : w.cell? ⟨pb, 9502, none⟩ = some (.slice (some ⟨g, 0, none⟩) 2 2))
    (c10 : w.cell? ⟨g, 10, none⟩ = some (.int .i64 0)) (c11 : w.cell? ⟨g, 11, none⟩ = some (.int .i64 len)) (c12 : w.cell? ⟨g, 12, none⟩ = some (.int .i64 dist))
    (hs : s < 12) (d4 : w.cell? ⟨g, 4, none⟩ = some (.int .u32 s)) (d5 : w.cell? ⟨g, 5, none⟩ = some (.int .u32 r0)) (d6 : w.cell? ⟨g, 6, none⟩ = some (.int .u32 r1)) (d7 : w.cell? ⟨g, 7, none⟩ = some (.int .u32 r2)) (d8 : w.cell? ⟨g, 8, none⟩ = some (.int .u32 r3))
    (hcells : ∀ j, j < 18 → ∃ v, w.cell? ⟨g, j, none⟩ = some v) (hfree : ∀ j, w.frozen? ⟨g, j, none⟩ = false) (hd : dist = 0) (ht : w.cell? ⟨0, s, none⟩ = some (.int .u32 t)) :
    Calls Ybad.prog 4 #[.pointer (some ⟨pb, 0, none⟩), .int .i64 1] w fun e w' => e = .returned (.tuple #[]) ∧ Left g t r0 r1 r2 r3 w w' := by
  have hsi : (s : Int) < 12 := by omega
  have a4 : ∀ k o, ((w.drewN k).alloc o).cell? ⟨g, 4, none⟩ = some (.int .u32 s) := fun k o => cell?_alloc_old (W := w.drewN k) o d4
  have a5 : ∀ k o, ((w.drewN k).alloc o).cell? ⟨g, 5, none⟩ = some (.int .u32 r0) := fun k o => cell?_alloc_old (W := w.drewN k) o d5
  have a6 : ∀ k o, ((w.drewN k).alloc o).cell? ⟨g, 6, none⟩ = some (.int .u32 r1) := fun k o => cell?_alloc_old (W := w.drewN k) o d6
  have a7 : ∀ k o, ((w.drewN k).alloc o).cell? ⟨g, 7, none⟩ = some (.int .u32 r2) := fun k o => cell?_alloc_old (W := w.drewN k) o d7
  have a8 : ∀ k o, ((w.drewN k).alloc o).cell? ⟨g, 8, none⟩ = some (.int .u32 r3) := fun k o => cell?_alloc_old (W := w.drewN k) o d8
  have a11 : ∀ k o, ((w.drewN k).alloc o).cell? ⟨g, 11, none⟩ = some (.int .i64 len) := fun k o => cell?_alloc_old (W := w.drewN k) o c11
  have a12 : ∀ k o, ((w.drewN k).alloc o).cell? ⟨g, 12, none⟩ = some (.int .i64 dist) := fun k o => cell?_alloc_old (W := w.drewN k) o c12
  obtain ⟨v13, e13⟩ := hcells 13 (by omega)
  have x13 : ∀ k o, ((w.drewN k).alloc o).cell? ⟨g, 13, none⟩ = some v13 := fun k o => cell?_alloc_old (W := w.drewN k) o e13
  have f13 : ∀ k c, ((w.drewN k).alloc (.cells c 23)).frozen? ⟨g, 13, none⟩ = false := fun k c => (frozen?_alloc_cells (w.drewN k) c 23 _).trans (hfree 13)
  obtain ⟨v14, e14⟩ := hcells 14 (by omega)
  have x14 : ∀ k o, ((w.drewN k).alloc o).cell? ⟨g, 14, none⟩ = some v14 := fun k o => cell?_alloc_old (W := w.drewN k) o e14
  have f14 : ∀ k c, ((w.drewN k).alloc (.cells c 23)).frozen? ⟨g, 14, none⟩ = false := fun k c => (frozen?_alloc_cells (w.drewN k) c 23 _).trans (hfree 14)
  obtain ⟨v15, e15⟩ := hcells 15 (by omega)
  have x15 : ∀ k o, ((w.drewN k).alloc o).cell? ⟨g, 15, none⟩ = some v15 := fun k o => cell?_alloc_old (W := w.drewN k) o e15
  have f15 : ∀ k c, ((w.drewN k).alloc (.cells c 23)).frozen? ⟨g, 15, none⟩ = false := fun k c => (frozen?_alloc_cells (w.drewN k) c 23 _).trans (hfree 15)
  obtain ⟨v16, e16⟩ := hcells 16 (by omega)
  have x16 : ∀ k o, ((w.drewN k).alloc o).cell? ⟨g, 16, none⟩ = some v16 := fun k o => cell?_alloc_old (W := w.drewN k) o e16
  have f16 : ∀ k c, ((w.drewN k).alloc (.cells c 23)).frozen? ⟨g, 16, none⟩ = false := fun k c => (frozen?_alloc_cells (w.drewN k) c 23 _).trans (hfree 16)
  obtain ⟨v17, e17⟩ := hcells 17 (by omega)
  have x17 : ∀ k o, ((w.drewN k).alloc o).cell? ⟨g, 17, none⟩ = some v17 := fun k o => cell?_alloc_old (W := w.drewN k) o e17
  have f17 : ∀ k c, ((w.drewN k).alloc (.cells c 23)).frozen? ⟨g, 17, none⟩ = false := fun k c => (frozen?_alloc_cells (w.drewN k) c 23 _).trans (hfree 17)
  subst hd
  have at0 : ∀ k o, ((w.drewN k).alloc o).cell? ⟨0, s, none⟩ = some (.int .u32 t) := fun k o => cell?_alloc_old (W := w.drewN k) o ht
  have n0 : ∀ k c j, ((w.drewN k).alloc (.cells c 23)).cell? ⟨w.heap.size, j, none⟩ = c[j]? := fun k c j => World.cell?_alloc_at (w := w.drewN k) c 23 _ j rfl
  have n1 : ∀ k c j v, ((w.drewN k).alloc (.cells c 23)).setCell ⟨w.heap.size, j, none⟩ v = (w.drewN k).alloc (.cells (c.setIfInBounds j v) 23) := fun k c j v => World.setCell_alloc_at (w := w.drewN k) c 23 _ j v rfl
  have n2 : ∀ k c j, ((w.drewN k).alloc (.cells c 23)).frozen? ⟨w.heap.size, j, none⟩ = false := fun k c j => World.frozen?_alloc_at (w := w.drewN k) c 23 _ j rfl
  have HC : Hid (∀ j, j < 18 → ∃ v, w.cell? ⟨g, j, none⟩ = some v) := hcells
  have hg : g < w.heap.size := World.block_lt_of_cell? _ _ c10
  clear hcells
  clear hfree e13 e14 e15 e16 e17
  go_enter Ybad.func4, Ybad.ntmps4
  go_upto_region 1 with fail
  go_quiet (fail)
  go_upto_region 2 with fail
  go_region
  go_wp2
  go_end0
  exact ⟨rfl, left_of ((below_drewN (Below.refl _ _) _).alloc (Nat.le_refl _) _) hg HC.out (set1 _ _ _ _) (set1 _ _ _ _) (set1 _ _ _ _) (set1 _ _ _ _) (set1 _ _ _ _)⟩

set_option maxHeartbeats 2000000 in
theorem arr_short0 (pb g s : Nat) (r0 r1 r2 r3 len dist t : Int) (w : World)
    (hP : w.cell? ⟨pb, 9502, none⟩ = some (.slice (some ⟨g, 0, none⟩) 2 2))
    (c10 : w.cell? ⟨g, 10, none⟩ = some (.int .i64 0)) (c11 : w.cell? ⟨g, 11, none⟩ = some (.int .i64 len)) (c12 : w.cell? ⟨g, 12, none⟩ = some (.int .i64 dist))
    (hs : s < 12) (d4 : w.cell? ⟨g, 4, none⟩ = some (.int .u32 s)) (d5 : w.cell? ⟨g, 5, none⟩ = some (.int .u32 r0)) (d6 : w.cell? ⟨g, 6, none⟩ = some (.int .u32 r1)) (d7 : w.cell? ⟨g, 7, none⟩ = some (.int .u32 r2)) (d8 : w.cell? ⟨g, 8, none⟩ = some (.int .u32 r3))
    (hcells : ∀ j, j < 18 → ∃ v, w.cell? ⟨g, j, none⟩ = some v) (hfree : ∀ j, w.frozen? ⟨g, j, none⟩ = false) (hd : (dist == 0) = false) (hl : len = 1) (ht : w.cell? ⟨1, s, none⟩ = some (.int .u32 t)) :
    Calls Ybad.prog 4 #[.pointer (some ⟨pb, 0, none⟩), .int .i64 1] w fun e w' => e = .returned (.tuple #[]) ∧ Left g t r0 r1 r2 r3 w w' := by
  have hsi : (s : Int) < 12 := by omega
  have a4 : ∀ k o, ((w.drewN k).alloc o).cell? ⟨g, 4, none⟩ = some (.int .u32 s) := fun k o => cell?_alloc_old (W := w.drewN k) o d4
  have a5 : ∀ k o, ((w.drewN k).alloc o).cell? ⟨g, 5, none⟩ = some (.int .u32 r0) := fun k o => cell?_alloc_old (W := w.drewN k) o d5
  have a6 : ∀ k o, ((w.drewN k).alloc o).cell? ⟨g, 6, none⟩ = some (.int .u32 r1) := fun k o => cell?_alloc_old (W := w.drewN k) o d6
  have a7 : ∀ k o, ((w.drewN k).alloc o).cell? ⟨g, 7, none⟩ = some (.int .u32 r2) := fun k o => cell?_alloc_old (W := w.drewN k) o d7
  have a8 : ∀ k o, ((w.drewN k).alloc o).cell? ⟨g, 8, none⟩ = some (.int .u32 r3) := fun k o => cell?_alloc_old (W := w.drewN k) o d8
  have a11 : ∀ k o, ((w.drewN k).alloc o).cell? ⟨g, 11, none⟩ = some (.int .i64 len) := fun k o => cell?_alloc_old (W := w.drewN k) o c11
  have a12 : ∀ k o, ((w.drewN k).alloc o).cell? ⟨g, 12, none⟩ = some (.int .i64 dist) := fun k o => cell?_alloc_old (W := w.drewN k) o c12
  obtain ⟨v13, e13⟩ := hcells 13 (by omega)
  have x13 : ∀ k o, ((w.drewN k).alloc o).cell? ⟨g, 13, none⟩ = some v13 := fun k o => cell?_alloc_old (W := w.drewN k) o e13
  have f13 : ∀ k c, ((w.drewN k).alloc (.cells c 23)).frozen? ⟨g, 13, none⟩ = false := fun k c => (frozen?_alloc_cells (w.drewN k) c 23 _).trans (hfree 13)
  obtain ⟨v14, e14⟩ := hcells 14 (by omega)
  have x14 : ∀ k o, ((w.drewN k).alloc o).cell? ⟨g, 14, none⟩ = some v14 := fun k o => cell?_alloc_old (W := w.drewN k) o e14
  have f14 : ∀ k c, ((w.drewN k).alloc (.cells c 23)).frozen? ⟨g, 14, none⟩ = false := fun k c => (frozen?_alloc_cells (w.drewN k) c 23 _).trans (hfree 14)
  obtain ⟨v15, e15⟩ := hcells 15 (by omega)
  have x15 : ∀ k o, ((w.drewN k).alloc o).cell? ⟨g, 15, none⟩ = some v15 := fun k o => cell?_alloc_old (W := w.drewN k) o e15
  have f15 : ∀ k c, ((w.drewN k).alloc (.cells c 23)).frozen? ⟨g, 15, none⟩ = false := fun k c => (frozen?_alloc_cells (w.drewN k) c 23 _).trans (hfree 15)
  obtain ⟨v16, e16⟩ := hcells 16 (by omega)
  have x16 : ∀ k o, ((w.drewN k).alloc o).cell? ⟨g, 16, none⟩ = some v16 := fun k o => cell?_alloc_old (W := w.drewN k) o e16
  have f16 : ∀ k c, ((w.drewN k).alloc (.cells c 23)).frozen? ⟨g, 16, none⟩ = false := fun k c => (frozen?_alloc_cells (w.drewN k) c 23 _).trans (hfree 16)
  obtain ⟨v17, e17⟩ := hcells 17 (by omega)
  have x17 : ∀ k o, ((w.drewN k).alloc o).cell? ⟨g, 17, none⟩ = some v17 := fun k o => cell?_alloc_old (W := w.drewN k) o e17
  have f17 : ∀ k c, ((w.drewN k).alloc (.cells c 23)).frozen? ⟨g, 17, none⟩ = false := fun k c => (frozen?_alloc_cells (w.drewN k) c 23 _).trans (hfree 17)
  subst hl
  have at0 : ∀ k o, ((w.drewN k).alloc o).cell? ⟨1, s, none⟩ = some (.int .u32 t) := fun k o => cell?_alloc_old (W := w.drewN k) o ht
  have n0 : ∀ k c j, ((w.drewN k).alloc (.cells c 23)).cell? ⟨w.heap.size, j, none⟩ = c[j]? := fun k c j => World.cell?_alloc_at (w := w.drewN k) c 23 _ j rfl
  have n1 : ∀ k c j v, ((w.drewN k).alloc (.cells c 23)).setCell ⟨w.heap.size, j, none⟩ v = (w.drewN k).alloc (.cells (c.setIfInBounds j v) 23) := fun k c j v => World.setCell_alloc_at (w := w.drewN k) c 23 _ j v rfl
  have n2 : ∀ k c j, ((w.drewN k).alloc (.cells c 23)).frozen? ⟨w.heap.size, j, none⟩ = false := fun k c j => World.frozen?_alloc_at (w := w.drewN k) c 23 _ j rfl
  have HC : Hid (∀ j, j < 18 → ∃ v, w.cell? ⟨g, j, none⟩ = some v) := hcells
  have hg : g < w.heap.size := World.block_lt_of_cell? _ _ c10
  clear hcells
  clear hfree e13 e14 e15 e16 e17
  go_enter Ybad.func4, Ybad.ntmps4
  go_upto_region 1 with fail
  go_quiet (fail)
  go_upto_region 2 with fail
  go_region
  go_wp2
  go_end0
  exact ⟨rfl, left_of ((below_drewN (Below.refl _ _) _).alloc (Nat.le_refl _) _) hg HC.out (set1 _ _ _ _) (set1 _ _ _ _) (set1 _ _ _ _) (set1 _ _ _ _) (set1 _ _ _ _)⟩

set_option maxHeartbeats 2000000 in
theorem arr_lit1 (pb g s : Nat) (r0 r1 r2 r3 len dist t : Int) (w : World)
    (hP : w.cell? ⟨pb, 9502, none⟩ = some (.slice (some ⟨g, 0, none⟩) 2 2))
    (c10 : w.cell? ⟨g, 10, none⟩ = some (.int .i64 1)) (c11 : w.cell? ⟨g, 11, none⟩ = some (.int .i64 len)) (c12 : w.cell? ⟨g, 12, none⟩ = some (.int .i64 dist))
    (hs : s < 12) (d4 : w.cell? ⟨g, 13, none⟩ = some (.int .u32 s)) (d5 : w.cell? ⟨g, 14, none⟩ = some (.int .u32 r0)) (d6 : w.cell? ⟨g, 15, none⟩ = some (.int .u32 r1)) (d7 : w.cell? ⟨g, 16, none⟩ = some (.int .u32 r2)) (d8 : w.cell? ⟨g, 17, none⟩ = some (.int .u32 r3))
    (hcells : ∀ j, j < 18 → ∃ v, w.cell? ⟨g, j, none⟩ = some v) (hfree : ∀ j, w.frozen? ⟨g, j, none⟩ = false) (hd : dist = 0) (ht : w.cell? ⟨0, s, none⟩ = some (.int .u32 t)) :
    Calls Ybad.prog 4 #[.pointer (some ⟨pb, 0, none⟩), .int .i64 1] w fun e w' => e = .returned (.tuple #[]) ∧ Left g t r0 r1 r2 r3 w w' := by
  have hsi : (s : Int) < 12 := by omega
  have a4 : ∀ k o, ((w.drewN k).alloc o).cell? ⟨g, 13, none⟩ = some (.int .u32 s) := fun k o => cell?_alloc_old (W := w.drewN k) o d4
  have a5 : ∀ k o, ((w.drewN k).alloc o).cell? ⟨g, 14, none⟩ = some (.int .u32 r0) := fun k o => cell?_alloc_old (W := w.drewN k) o d5
  have a6 : ∀ k o, ((w.drewN k).alloc o).cell? ⟨g, 15, none⟩ = some (.int .u32 r1) := fun k o => cell?_alloc_old (W := w.drewN k) o d6
  have a7 : ∀ k o, ((w.drewN k).alloc o).cell? ⟨g, 16, none⟩ = some (.int .u32 r2) := fun k o => cell?_alloc_old (W := w.drewN k) o d7
  have a8 : ∀ k o, ((w.drewN k).alloc o).cell? ⟨g, 17, none⟩ = some (.int .u32 r3) := fun k o => cell?_alloc_old (W := w.drewN k) o d8
  have a11 : ∀ k o, ((w.drewN k).alloc o).cell? ⟨g, 11, none⟩ = some (.int .i64 len) := fun k o => cell?_alloc_old (W := w.drewN k) o c11
  have a12 : ∀ k o, ((w.drewN k).alloc o).cell? ⟨g, 12, none⟩ = some (.int .i64 dist) := fun k o => cell?_alloc_old (W := w.drewN k) o c12
  obtain ⟨v13, e13⟩ := hcells 13 (by omega)
  have x13 : ∀ k o, ((w.drewN k).alloc o).cell? ⟨g, 13, none⟩ = some v13 := fun k o => cell?_alloc_old (W := w.drewN k) o e13
  have f13 : ∀ k c, ((w.drewN k).alloc (.cells c 23)).frozen? ⟨g, 13, none⟩ = false := fun k c => (frozen?_alloc_cells (w.drewN k) c 23 _).trans (hfree 13)
  obtain ⟨v14, e14⟩ := hcells 14 (by omega)
  have x14 : ∀ k o, ((w.drewN k).alloc o).cell? ⟨g, 14, none⟩ = some v14 := fun k o => cell?_alloc_old (W := w.drewN k) o e14
  have f14 : ∀ k c, ((w.drewN k).alloc (.cells c 23)).frozen? ⟨g, 14, none⟩ = false := fun k c => (frozen?_alloc_cells (w.drewN k) c 23 _).trans (hfree 14)
  obtain ⟨v15, e15⟩ := hcells 15 (by omega)
  have x15 : ∀ k o, ((w.drewN k).alloc o).cell? ⟨g, 15, none⟩ = some v15 := fun k o => cell?_alloc_old (W := w.drewN k) o e15
  have f15 : ∀ k c, ((w.drewN k).alloc (.cells c 23)).frozen? ⟨g, 15, none⟩ = false := fun k c => (frozen?_alloc_cells (w.drewN k) c 23 _).trans (hfree 15)
  obtain ⟨v16, e16⟩ := hcells 16 (by omega)
  have x16 : ∀ k o, ((w.drewN k).alloc o).cell? ⟨g, 16, none⟩ = some v16 := fun k o => cell?_alloc_old (W := w.drewN k) o e16
  have f16 : ∀ k c, ((w.drewN k).alloc (.cells c 23)).frozen? ⟨g, 16, none⟩ = false := fun k c => (frozen?_alloc_cells (w.drewN k) c 23 _).trans (hfree 16)
  obtain ⟨v17, e17⟩ := hcells 17 (by omega)
  have x17 : ∀ k o, ((w.drewN k).alloc o).cell? ⟨g, 17, none⟩ = some v17 := fun k o => cell?_alloc_old (W := w.drewN k) o e17
  have f17 : ∀ k c, ((w.drewN k).alloc (.cells c 23)).frozen? ⟨g, 17, none⟩ = false := fun k c => (frozen?_alloc_cells (w.drewN k) c 23 _).trans (hfree 17)
  subst hd
  have at0 : ∀ k o, ((w.drewN k).alloc o).cell? ⟨0, s, none⟩ = some (.int .u32 t) := fun k o => cell?_alloc_old (W := w.drewN k) o ht
  have n0 : ∀ k c j, ((w.drewN k).alloc (.cells c 23)).cell? ⟨w.heap.size, j, none⟩ = c[j]? := fun k c j => World.cell?_alloc_at (w := w.drewN k) c 23 _ j rfl
  have n1 : ∀ k c j v, ((w.drewN k).alloc (.cells c 23)).setCell ⟨w.heap.size, j, none⟩ v = (w.drewN k).alloc (.cells (c.setIfInBounds j v) 23) := fun k c j v => World.setCell_alloc_at (w := w.drewN k) c 23 _ j v rfl
  have n2 : ∀ k c j, ((w.drewN k).alloc (.cells c 23)).frozen? ⟨w.heap.size, j, none⟩ = false := fun k c j => World.frozen?_alloc_at (w := w.drewN k) c 23 _ j rfl
  have HC : Hid (∀ j, j < 18 → ∃ v, w.cell? ⟨g, j, none⟩ = some v) := hcells
  have hg : g < w.heap.size := World.block_lt_of_cell? _ _ c10
  clear hcells
  clear hfree e13 e14 e15 e16 e17
  go_enter Ybad.func4, Ybad.ntmps4
  go_upto_region 1 with fail
  go_quiet (fail)
  go_upto_region 2 with fail
  go_region
  go_wp2
  go_end0
  exact ⟨rfl, left_of ((below_drewN (Below.refl _ _) _).alloc (Nat.le_refl _) _) hg HC.out (set1 _ _ _ _) (set1 _ _ _ _) (set1 _ _ _ _) (set1 _ _ _ _) (set1 _ _ _ _)⟩

set_option maxHeartbeats 2000000 in
theorem arr_short1 (pb g s : Nat) (r0 r1 r2 r3 len dist t : Int) (w : World)
    (hP : w.cell? ⟨pb, 9502, none⟩ = some (.slice (some ⟨g, 0, none⟩) 2 2))
    (c10 : w.cell? ⟨g, 10, none⟩ = some (.int .i64 1)) (c11 : w.cell? ⟨g, 11, none⟩ = some (.int .i64 len)) (c12 : w.cell? ⟨g, 12, none⟩ = some (.int .i64 dist))
    (hs : s < 12) (d4 : w.cell? ⟨g, 13, none⟩ = some (.int .u32 s)) (d5 : w.cell? ⟨g, 14, none⟩ = some (.int .u32 r0)) (d6 : w.cell? ⟨g, 15, none⟩ = some (.int .u32 r1)) (d7 : w.cell? ⟨g, 16, none⟩ = some (.int .u32 r2)) (d8 : w.cell? ⟨g, 17, none⟩ = some (.int .u32 r3))
    (hcells : ∀ j, j < 18 → ∃ v, w.cell? ⟨g, j, none⟩ = some v) (hfree : ∀ j, w.frozen? ⟨g, j, none⟩ = false) (hd : (dist == 0) = false) (hl : len = 1) (ht : w.cell? ⟨1, s, none⟩ = some (.int .u32 t)) :
    Calls Ybad.prog 4 #[.pointer (some ⟨pb, 0, none⟩), .int .i64 1] w fun e w' => e = .returned (.tuple #[]) ∧ Left g t r0 r1 r2 r3 w w' := by
  have hsi : (s : Int) < 12 := by omega
  have a4 : ∀ k o, ((w.drewN k).alloc o).cell? ⟨g, 13, none⟩ = some (.int .u32 s) := fun k o => cell?_alloc_old (W := w.drewN k) o d4
  have a5 : ∀ k o, ((w.drewN k).alloc o).cell? ⟨g, 14, none⟩ = some (.int .u32 r0) := fun k o => cell?_alloc_old (W := w.drewN k) o d5
  have a6 : ∀ k o, ((w.drewN k).alloc o).cell? ⟨g, 15, none⟩ = some (.int .u32 r1) := fun k o => cell?_alloc_old (W := w.drewN k) o d6
  have a7 : ∀ k o, ((w.drewN k).alloc o).cell? ⟨g, 16, none⟩ = some (.int .u32 r2) := fun k o => cell?_alloc_old (W := w.drewN k) o d7
  have a8 : ∀ k o, ((w.drewN k).alloc o).cell? ⟨g, 17, none⟩ = some (.int .u32 r3) := fun k o => cell?_alloc_old (W := w.drewN k) o d8
  have a11 : ∀ k o, ((w.drewN k).alloc o).cell? ⟨g, 11, none⟩ = some (.int .i64 len) := fun k o => cell?_alloc_old (W := w.drewN k) o c11
  have a12 : ∀ k o, ((w.drewN k).alloc o).cell? ⟨g, 12, none⟩ = some (.int .i64 dist) := fun k o => cell?_alloc_old (W := w.drewN k) o c12
  obtain ⟨v13, e13⟩ := hcells 13 (by omega)
  have x13 : ∀ k o, ((w.drewN k).alloc o).cell? ⟨g, 13, none⟩ = some v13 := fun k o => cell?_alloc_old (W := w.drewN k) o e13
  have f13 : ∀ k c, ((w.drewN k).alloc (.cells c 23)).frozen? ⟨g, 13, none⟩ = false := fun k c => (frozen?_alloc_cells (w.drewN k) c 23 _).trans (hfree 13)
  obtain ⟨v14, e14⟩ := hcells 14 (by omega)
  have x14 : ∀ k o, ((w.drewN k).alloc o).cell? ⟨g, 14, none⟩ = some v14 := fun k o => cell?_alloc_old (W := w.drewN k) o e14
  have f14 : ∀ k c, ((w.drewN k).alloc (.cells c 23)).frozen? ⟨g, 14, none⟩ = false := fun k c => (frozen?_alloc_cells (w.drewN k) c 23 _).trans (hfree 14)
  obtain ⟨v15, e15⟩ := hcells 15 (by omega)
  have x15 : ∀ k o, ((w.drewN k).alloc o).cell? ⟨g, 15, none⟩ = some v15 := fun k o => cell?_alloc_old (W := w.drewN k) o e15
  have f15 : ∀ k c, ((w.drewN k).alloc (.cells c 23)).frozen? ⟨g, 15, none⟩ = false := fun k c => (frozen?_alloc_cells (w.drewN k) c 23 _).trans (hfree 15)
  obtain ⟨v16, e16⟩ := hcells 16 (by omega)
  have x16 : ∀ k o, ((w.drewN k).alloc o).cell? ⟨g, 16, none⟩ = some v16 := fun k o => cell?_alloc_old (W := w.drewN k) o e16
  have f16 : ∀ k c, ((w.drewN k).alloc (.cells c 23)).frozen? ⟨g, 16, none⟩ = false := fun k c => (frozen?_alloc_cells (w.drewN k) c 23 _).trans (hfree 16)
  obtain ⟨v17, e17⟩ := hcells 17 (by omega)
  have x17 : ∀ k o, ((w.drewN k).alloc o).cell? ⟨g, 17, none⟩ = some v17 := fun k o => cell?_alloc_old (W := w.drewN k) o e17
  have f17 : ∀ k c, ((w.drewN k).alloc (.cells c 23)).frozen? ⟨g, 17, none⟩ = false := fun k c => (frozen?_alloc_cells (w.drewN k) c 23 _).trans (hfree 17)
  subst hl
  have at0 : ∀ k o, ((w.drewN k).alloc o).cell? ⟨1, s, none⟩ = some (.int .u32 t) := fun k o => cell?_alloc_old (W := w.drewN k) o ht
  have n0 : ∀ k c j, ((w.drewN k).alloc (.cells c 23)).cell? ⟨w.heap.size, j, none⟩ = c[j]? := fun k c j => World.cell?_alloc_at (w := w.drewN k) c 23 _ j rfl
  have n1 : ∀ k c j v, ((w.drewN k).alloc (.cells c 23)).setCell ⟨w.heap.size, j, none⟩ v = (w.drewN k).alloc (.cells (c.setIfInBounds j v) 23) := fun k c j v => World.setCell_alloc_at (w := w.drewN k) c 23 _ j v rfl
  have n2 : ∀ k c j, ((w.drewN k).alloc (.cells c 23)).frozen? ⟨w.heap.size, j, none⟩ = false := fun k c j => World.frozen?_alloc_at (w := w.drewN k) c 23 _ j rfl
  have HC : Hid (∀ j, j < 18 → ∃ v, w.cell? ⟨g, j, none⟩ = some v) := hcells
  have hg : g < w.heap.size := World.block_lt_of_cell? _ _ c10
  clear hcells
  clear hfree e13 e14 e15 e16 e17
  go_enter Ybad.func4, Ybad.ntmps4
  go_upto_region 1 with fail
  go_quiet (fail)
  go_upto_region 2 with fail
  go_region
  go_wp2
  go_end0
  exact ⟨rfl, left_of ((below_drewN (Below.refl _ _) _).alloc (Nat.le_refl _) _) hg HC.out (set1 _ _ _ _) (set1 _ _ _ _) (set1 _ _ _ _) (set1 _ _ _ _) (set1 _ _ _ _)⟩

end Go.Proofs.YbulkbngDoor
