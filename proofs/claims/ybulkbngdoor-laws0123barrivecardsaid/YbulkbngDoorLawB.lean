/-
  DERIVED. THE WALK: LawS0123BArrive (3), where the node comes from itself; the two together.
-/
import Derived.Test.YbulkbngDoorLaw
namespace Go.Proofs.YbulkbngDoor
open Go.RowKit Go.Stop

set_option maxRecDepth 100000 in
set_option maxHeartbeats 1000000 in
theorem law1 (xn st : Nat) (r0 r1 r2 r3 len dist : Int) (w : World) (hst : st < 12) (hmod : (xn : Int) % 12 = (st : Int)) (hT : Tabs w) :
    Calls Ybad.prog 3 #[.int .u32 xn, .agg #[.int .u32 r0, .int .u32 r1, .int .u32 r2, .int .u32 r3], .int .i64 len, .int .i64 dist, .bool true] w fun e w' => e = .returned (.bool true) ∧ Below w.heap.size w w' := by
  obtain ⟨i0, hi, hz0, hz1, hz2⟩ := info_parts Ybad.info48
  obtain ⟨Z0, hZs, hZr⟩ := zero44
  have hZn : ¬ Z0.size < 9503 := by omega
  have hZ7 : ∀ v, (Z0.setIfInBounds 9502 v)[9502]? = some v := fun v => by rw [Array.getElem?_setIfInBounds]; simp [hZs]
  have hb1 : Below w.heap.size w (w.alloc (.cells #[.int .u32 r0, .int .u32 r1, .int .u32 r2, .int .u32 r3] 23)) := (Below.refl _ _).alloc (Nat.le_refl _) _
  clear hZs
  go_enter Ybad.func3, Ybad.ntmps3
  go_upto_region 3 with (at_make; refine wpList_make_full _ rfl _ _ 25 rfl (w.heap.size + 1) 48 i0 _ 9 Ybad.underlying25 hi hz0 hz1 .i64 .i64 _ _ 2 rfl rfl rfl rfl (by rw [hz2]; omega) (by unfold maxLen; omega) (by simp) ?_; intro w2 hown2 hgrow2)
  have hs2 : w.heap.size + 1 < w2.heap.size := by
    have := (hown2.lt _ rfl).2
    simpa using this
  have hxs := made18
  have hb2 : Below (w.heap.size + 1) (w.alloc (.cells #[.int .u32 r0, .int .u32 r1, .int .u32 r2, .int .u32 r3] 23)) w2 := (Below.refl _ _).grown hgrow2 (by simp) (fun k hk => by cases hk)
  obtain ⟨W, hW⟩ : ∃ W, W = w2.alloc (.cells (Z0.setIfInBounds 9502 (.slice (some ⟨w.heap.size + 1, 0, none⟩) 2 2)) 44) := ⟨_, rfl⟩
  have hb3 : Below w2.heap.size w2 W := by rw [hW]; exact (Below.refl _ _).alloc (Nat.le_refl _) _
  have hown : W.ownsRow (w.heap.size + 1) 48 9 (.slice (some ⟨w.heap.size + 1, 0, none⟩) 2 2) 2 [.int .u32 0, .int .i64 0, .int .i64 0, .int .i64 0, .int .u32 0, .int .u32 0, .int .u32 0, .int .u32 0, .int .u32 0, .int .u32 0, .int .i64 0, .int .i64 0, .int .i64 0, .int .u32 0, .int .u32 0, .int .u32 0, .int .u32 0, .int .u32 0] := by
    have h := hown2.alloc (.cells (Z0.setIfInBounds 9502 (.slice (some ⟨w.heap.size + 1, 0, none⟩) 2 2)) 44)
    rw [← hW, hxs, World.size_alloc] at h
    exact h
  have hP : W.cell? ⟨w2.heap.size, 9502, none⟩ = some (.slice (some ⟨w.heap.size + 1, 0, none⟩) 2 2) := by
    rw [hW, World.cell?_alloc_at (w := w2) _ _ _ _ rfl]; exact hZ7 _
  have hrb : ∀ i, W.cell? ⟨w.heap.size, i, none⟩ = (#[Value.int .u32 r0, .int .u32 r1, .int .u32 r2, .int .u32 r3])[i]? := fun i => by
    rw [hb3.cell (by show w.heap.size < _; omega), hb2.cell (by exact Nat.lt_succ_self _)]; exact World.cell?_alloc_at (w := w) _ _ _ _ rfl
  have hbW : Below w.heap.size w W := hb1.trans ((hb2.mono (by omega)).trans (hb3.mono (by omega)))
  rw [← hW]
  clear hW hown2 hgrow2 hxs hb2 hb3 hZr hZn hZ7 hb1
  have q0 := hrb 0
  have q1 := hrb 1
  have q2 := hrb 2
  have q3 := hrb 3
  simp only [List.getElem?_toArray, List.getElem?_cons_zero, List.getElem?_cons_succ] at q0 q1 q2 q3
  have hx1 : ∀ (W : World) (j : Nat) (v : Value), (W.setCell ⟨w.heap.size + 1, j, none⟩ v).cell? ⟨w2.heap.size, 9502, none⟩ = W.cell? ⟨w2.heap.size, 9502, none⟩ := fun W j v => World.cell?_setCell_other _ _ _ _ (by simp <;> omega)
  have hx2 : ∀ (W : World) (j i : Nat) (v : Value), (W.setCell ⟨w.heap.size + 1, j, none⟩ v).cell? ⟨w.heap.size, i, none⟩ = W.cell? ⟨w.heap.size, i, none⟩ := fun W j i v => World.cell?_setCell_other _ _ _ _ (by simp)
  have hfz : ∀ j, W.frozen? ⟨w.heap.size + 1, j, none⟩ = false := fun j => hown.frozenAt j
  have y0 : W.cell? ⟨w.heap.size + 1, 0, none⟩ = some (.int .u32 0) := (hown.cellAt 0 (by omega)).trans rfl
  have y1 : W.cell? ⟨w.heap.size + 1, 1, none⟩ = some (.int .i64 0) := (hown.cellAt 1 (by omega)).trans rfl
  have y2 : W.cell? ⟨w.heap.size + 1, 2, none⟩ = some (.int .i64 0) := (hown.cellAt 2 (by omega)).trans rfl
  have y3 : W.cell? ⟨w.heap.size + 1, 3, none⟩ = some (.int .i64 0) := (hown.cellAt 3 (by omega)).trans rfl
  have y4 : W.cell? ⟨w.heap.size + 1, 4, none⟩ = some (.int .u32 0) := (hown.cellAt 4 (by omega)).trans rfl
  have y5 : W.cell? ⟨w.heap.size + 1, 5, none⟩ = some (.int .u32 0) := (hown.cellAt 5 (by omega)).trans rfl
  have y6 : W.cell? ⟨w.heap.size + 1, 6, none⟩ = some (.int .u32 0) := (hown.cellAt 6 (by omega)).trans rfl
  have y7 : W.cell? ⟨w.heap.size + 1, 7, none⟩ = some (.int .u32 0) := (hown.cellAt 7 (by omega)).trans rfl
  have y8 : W.cell? ⟨w.heap.size + 1, 8, none⟩ = some (.int .u32 0) := (hown.cellAt 8 (by omega)).trans rfl
  have y9 : W.cell? ⟨w.heap.size + 1, 9, none⟩ = some (.int .u32 0) := (hown.cellAt 9 (by omega)).trans rfl
  have y10 : W.cell? ⟨w.heap.size + 1, 10, none⟩ = some (.int .i64 0) := (hown.cellAt 10 (by omega)).trans rfl
  have y11 : W.cell? ⟨w.heap.size + 1, 11, none⟩ = some (.int .i64 0) := (hown.cellAt 11 (by omega)).trans rfl
  have y12 : W.cell? ⟨w.heap.size + 1, 12, none⟩ = some (.int .i64 0) := (hown.cellAt 12 (by omega)).trans rfl
  have y13 : W.cell? ⟨w.heap.size + 1, 13, none⟩ = some (.int .u32 0) := (hown.cellAt 13 (by omega)).trans rfl
  have y14 : W.cell? ⟨w.heap.size + 1, 14, none⟩ = some (.int .u32 0) := (hown.cellAt 14 (by omega)).trans rfl
  have y15 : W.cell? ⟨w.heap.size + 1, 15, none⟩ = some (.int .u32 0) := (hown.cellAt 15 (by omega)).trans rfl
  have y16 : W.cell? ⟨w.heap.size + 1, 16, none⟩ = some (.int .u32 0) := (hown.cellAt 16 (by omega)).trans rfl
  have y17 : W.cell? ⟨w.heap.size + 1, 17, none⟩ = some (.int .u32 0) := (hown.cellAt 17 (by omega)).trans rfl
  have HO := hown
  clear hown hrb
  obtain ⟨S, R0, R1, R2, R3, hexp, _, harr⟩ := both st hst r0 r1 r2 r3 len dist
  have HEXP : Hid (ExpGives st r0 r1 r2 r3 len dist S R0 R1 R2 R3) := hexp
  have HARR : Hid (ArrGives 1 9 st r0 r1 r2 r3 len dist S R0 R1 R2 R3) := harr
  have HOO : Hid (W.ownsRow (w.heap.size + 1) 48 9 (.slice (some ⟨w.heap.size + 1, 0, none⟩) 2 2) 2 [.int .u32 0, .int .i64 0, .int .i64 0, .int .i64 0, .int .u32 0, .int .u32 0, .int .u32 0, .int .u32 0, .int .u32 0, .int .u32 0, .int .i64 0, .int .i64 0, .int .i64 0, .int .u32 0, .int .u32 0, .int .u32 0, .int .u32 0, .int .u32 0]) := HO
  clear hexp harr HO
  go_upto_region 9 with fail
  go_region
  go_wp2_with fail
  have hm : ∀ W5 : World, W5.ownsRow (w.heap.size + 1) 48 9 (.slice (some ⟨w.heap.size + 1, 0, none⟩) 2 2) 2 [.int .u32 0, .int .i64 0, .int .i64 0, .int .i64 0, .int .u32 0, .int .u32 0, .int .u32 0, .int .u32 0, .int .u32 0, .int .u32 77, .int .i64 1, .int .i64 len, .int .i64 dist, .int .u32 st, .int .u32 r0, .int .u32 r1, .int .u32 r2, .int .u32 r3] →
      W5.cell? ⟨w2.heap.size, 9502, none⟩ = some (.slice (some ⟨w.heap.size + 1, 0, none⟩) 2 2) → Mem 1 9 w2.heap.size (w.heap.size + 1) st r0 r1 r2 r3 len dist W5 := fun W5 h hp =>
    ⟨hp, (h.cellAt 10 (by omega)).trans rfl, (h.cellAt 11 (by omega)).trans rfl, (h.cellAt 12 (by omega)).trans rfl, (h.cellAt 13 (by omega)).trans rfl, (h.cellAt 14 (by omega)).trans rfl, (h.cellAt 15 (by omega)).trans rfl, (h.cellAt 16 (by omega)).trans rfl, (h.cellAt 17 (by omega)).trans rfl,
      fun j hj => ⟨_, (h.cellAt j (by omega)).trans (List.getElem?_eq_getElem (by simpa using hj))⟩, fun j => h.frozenAt j⟩
  refine calls_world (fun W5 => W5.ownsRow (w.heap.size + 1) 48 9 (.slice (some ⟨w.heap.size + 1, 0, none⟩) 2 2) 2 [.int .u32 0, .int .i64 0, .int .i64 0, .int .i64 0, .int .u32 0, .int .u32 0, .int .u32 0, .int .u32 0, .int .u32 0, .int .u32 77, .int .i64 1, .int .i64 len, .int .i64 dist, .int .u32 st, .int .u32 r0, .int .u32 r1, .int .u32 r2, .int .u32 r3] ∧ W5.cell? ⟨w2.heap.size, 9502, none⟩ = some (.slice (some ⟨w.heap.size + 1, 0, none⟩) 2 2) ∧
    (W5.cell? ⟨w.heap.size, 0, none⟩ = some (.int .u32 r0) ∧ W5.cell? ⟨w.heap.size, 1, none⟩ = some (.int .u32 r1) ∧ W5.cell? ⟨w.heap.size, 2, none⟩ = some (.int .u32 r2) ∧ W5.cell? ⟨w.heap.size, 3, none⟩ = some (.int .u32 r3)) ∧ Below w.heap.size w W5) ?hp ?_
  case hp =>
    have s0 := (HOO.out.stored 9 (.int .u32 77)).1
    simp only [List.set_cons_zero, List.set_cons_succ] at s0
    have t0 := below_set hbW (a := ⟨w.heap.size + 1, 9, none⟩) (Nat.le_succ _) (.int .u32 77)
    have s1 := (s0.stored 10 (.int .i64 1)).1
    simp only [List.set_cons_zero, List.set_cons_succ] at s1
    have t1 := below_set t0 (a := ⟨w.heap.size + 1, 10, none⟩) (Nat.le_succ _) (.int .i64 1)
    have s2 := (s1.stored 11 (.int .i64 len)).1
    simp only [List.set_cons_zero, List.set_cons_succ] at s2
    have t2 := below_set t1 (a := ⟨w.heap.size + 1, 11, none⟩) (Nat.le_succ _) (.int .i64 len)
    have s3 := (s2.stored 12 (.int .i64 dist)).1
    simp only [List.set_cons_zero, List.set_cons_succ] at s3
    have t3 := below_set t2 (a := ⟨w.heap.size + 1, 12, none⟩) (Nat.le_succ _) (.int .i64 dist)
    have s4 := (s3.stored 13 (.int .u32 5)).1
    simp only [List.set_cons_zero, List.set_cons_succ] at s4
    have t4 := below_set t3 (a := ⟨w.heap.size + 1, 13, none⟩) (Nat.le_succ _) (.int .u32 5)
    have s5 := (s4.stored 14 (.int .u32 9)).1
    simp only [List.set_cons_zero, List.set_cons_succ] at s5
    have t5 := below_set t4 (a := ⟨w.heap.size + 1, 14, none⟩) (Nat.le_succ _) (.int .u32 9)
    have s6 := (s5.stored 15 (.int .u32 9)).1
    simp only [List.set_cons_zero, List.set_cons_succ] at s6
    have t6 := below_set t5 (a := ⟨w.heap.size + 1, 15, none⟩) (Nat.le_succ _) (.int .u32 9)
    have s7 := (s6.stored 16 (.int .u32 9)).1
    simp only [List.set_cons_zero, List.set_cons_succ] at s7
    have t7 := below_set t6 (a := ⟨w.heap.size + 1, 16, none⟩) (Nat.le_succ _) (.int .u32 9)
    have s8 := (s7.stored 17 (.int .u32 9)).1
    simp only [List.set_cons_zero, List.set_cons_succ] at s8
    have t8 := below_set t7 (a := ⟨w.heap.size + 1, 17, none⟩) (Nat.le_succ _) (.int .u32 9)
    have s9 := (s8.stored 13 (.int .u32 st)).1
    simp only [List.set_cons_zero, List.set_cons_succ] at s9
    have t9 := below_set t8 (a := ⟨w.heap.size + 1, 13, none⟩) (Nat.le_succ _) (.int .u32 st)
    have s10 := (s9.stored 14 (.int .u32 r0)).1
    simp only [List.set_cons_zero, List.set_cons_succ] at s10
    have t10 := below_set t9 (a := ⟨w.heap.size + 1, 14, none⟩) (Nat.le_succ _) (.int .u32 r0)
    have s11 := (s10.stored 15 (.int .u32 r1)).1
    simp only [List.set_cons_zero, List.set_cons_succ] at s11
    have t11 := below_set t10 (a := ⟨w.heap.size + 1, 15, none⟩) (Nat.le_succ _) (.int .u32 r1)
    have s12 := (s11.stored 16 (.int .u32 r2)).1
    simp only [List.set_cons_zero, List.set_cons_succ] at s12
    have t12 := below_set t11 (a := ⟨w.heap.size + 1, 16, none⟩) (Nat.le_succ _) (.int .u32 r2)
    have s13 := (s12.stored 17 (.int .u32 r3)).1
    simp only [List.set_cons_zero, List.set_cons_succ] at s13
    have t13 := below_set t12 (a := ⟨w.heap.size + 1, 17, none⟩) (Nat.le_succ _) (.int .u32 r3)
    refine ⟨s13.drew, ?_, ⟨?_, ?_, ?_, ?_⟩, t13.drew⟩
    · simp only [World.cell?_drew, hx1]; exact hP
    · simp only [World.cell?_drew, hx2]; exact q0
    · simp only [World.cell?_drew, hx2]; exact q1
    · simp only [World.cell?_drew, hx2]; exact q2
    · simp only [World.cell?_drew, hx2]; exact q3
  rintro W5 ⟨own5, hp5, ⟨k0, k1, k2, k3⟩, hb5⟩
  have hT5 := hT.below hb5
  have hm5 := hm W5 own5 hp5
  have hpl5 : w2.heap.size < W5.heap.size := World.block_lt_of_cell? _ _ hp5
  have HO5 : Hid (W5.ownsRow (w.heap.size + 1) 48 9 (.slice (some ⟨w.heap.size + 1, 0, none⟩) 2 2) 2 [.int .u32 0, .int .i64 0, .int .i64 0, .int .i64 0, .int .u32 0, .int .u32 0, .int .u32 0, .int .u32 0, .int .u32 0, .int .u32 77, .int .i64 1, .int .i64 len, .int .i64 dist, .int .u32 st, .int .u32 r0, .int .u32 r1, .int .u32 r2, .int .u32 r3]) := own5
  clear hm hP q0 q1 q2 q3 hx1 hx2 hfz HOO own5 y0 y1 y2 y3 y4 y5 y6 y7 y8 y9 y10 y11 y12 y13 y14 y15 y16 y17
  refine (HARR.out _ _ W5 hT5 hm5).mono ?_
  rintro e w6 ⟨rfl, hL⟩
  have hs6 := hL.size
  have hcr : ∀ i, w6.cell? ⟨w.heap.size, i, none⟩ = W5.cell? ⟨w.heap.size, i, none⟩ := fun i => World.cell?_of_block (w := W5) (hL.block _ (by show w.heap.size < _; omega) (by show w.heap.size ≠ w.heap.size + 1; omega))
  have hcp : w6.cell? ⟨w2.heap.size, 9502, none⟩ = W5.cell? ⟨w2.heap.size, 9502, none⟩ := World.cell?_of_block (w := W5) (hL.block _ (by exact hpl5) (by show w2.heap.size ≠ w.heap.size + 1; omega))
  have m0 := (hcr 0).trans k0
  have m1 := (hcr 1).trans k1
  have m2 := (hcr 2).trans k2
  have m3 := (hcr 3).trans k3
  have mp := hcp.trans hp5
  have hb6 : Below w.heap.size w w6 := hb5.trans (hL.below (by omega) (by omega))
  have HL : Hid (Left (w.heap.size + 1) S R0 R1 R2 R3 W5 w6) := hL
  clear hcr hcp k0 k1 k2 k3 hp5 hL hm5 hT5
  go_wp2_with fail
  refine (HEXP.out w6).mono ?_
  rintro e w7 ⟨rfl, hb7⟩
  have hs7 := hb7.size
  have key : ∀ (b i : Nat) (v : Value), b < w6.heap.size → w6.cell? ⟨b, i, none⟩ = some v → w7.cell? ⟨b, i, none⟩ = some v := fun b i v hb h => by
    rw [hb7.cell (by exact hb)]; exact h
  have o0 := key _ _ _ (by omega) m0
  have o1 := key _ _ _ (by omega) m1
  have o2 := key _ _ _ (by omega) m2
  have o3 := key _ _ _ (by omega) m3
  have op := key _ _ _ (by omega) mp
  have z0 : w7.cell? ⟨w.heap.size + 1, 0, none⟩ = some (.int .u32 0) := key _ _ _ (by omega) ((HL.out.other 0 (by omega)).trans ((HO5.out.cellAt 0 (by omega)).trans rfl))
  have z1 : w7.cell? ⟨w.heap.size + 1, 1, none⟩ = some (.int .i64 0) := key _ _ _ (by omega) ((HL.out.other 1 (by omega)).trans ((HO5.out.cellAt 1 (by omega)).trans rfl))
  have z2 : w7.cell? ⟨w.heap.size + 1, 2, none⟩ = some (.int .i64 0) := key _ _ _ (by omega) ((HL.out.other 2 (by omega)).trans ((HO5.out.cellAt 2 (by omega)).trans rfl))
  have z3 : w7.cell? ⟨w.heap.size + 1, 3, none⟩ = some (.int .i64 0) := key _ _ _ (by omega) ((HL.out.other 3 (by omega)).trans ((HO5.out.cellAt 3 (by omega)).trans rfl))
  have z4 : w7.cell? ⟨w.heap.size + 1, 4, none⟩ = some (.int .u32 0) := key _ _ _ (by omega) ((HL.out.other 4 (by omega)).trans ((HO5.out.cellAt 4 (by omega)).trans rfl))
  have z5 : w7.cell? ⟨w.heap.size + 1, 5, none⟩ = some (.int .u32 0) := key _ _ _ (by omega) ((HL.out.other 5 (by omega)).trans ((HO5.out.cellAt 5 (by omega)).trans rfl))
  have z6 : w7.cell? ⟨w.heap.size + 1, 6, none⟩ = some (.int .u32 0) := key _ _ _ (by omega) ((HL.out.other 6 (by omega)).trans ((HO5.out.cellAt 6 (by omega)).trans rfl))
  have z7 : w7.cell? ⟨w.heap.size + 1, 7, none⟩ = some (.int .u32 0) := key _ _ _ (by omega) ((HL.out.other 7 (by omega)).trans ((HO5.out.cellAt 7 (by omega)).trans rfl))
  have z8 : w7.cell? ⟨w.heap.size + 1, 8, none⟩ = some (.int .u32 0) := key _ _ _ (by omega) ((HL.out.other 8 (by omega)).trans ((HO5.out.cellAt 8 (by omega)).trans rfl))
  have z9 : w7.cell? ⟨w.heap.size + 1, 9, none⟩ = some (.int .u32 77) := key _ _ _ (by omega) ((HL.out.other 9 (by omega)).trans ((HO5.out.cellAt 9 (by omega)).trans rfl))
  have z10 : w7.cell? ⟨w.heap.size + 1, 10, none⟩ = some (.int .i64 1) := key _ _ _ (by omega) ((HL.out.other 10 (by omega)).trans ((HO5.out.cellAt 10 (by omega)).trans rfl))
  have z11 : w7.cell? ⟨w.heap.size + 1, 11, none⟩ = some (.int .i64 len) := key _ _ _ (by omega) ((HL.out.other 11 (by omega)).trans ((HO5.out.cellAt 11 (by omega)).trans rfl))
  have z12 : w7.cell? ⟨w.heap.size + 1, 12, none⟩ = some (.int .i64 dist) := key _ _ _ (by omega) ((HL.out.other 12 (by omega)).trans ((HO5.out.cellAt 12 (by omega)).trans rfl))
  have z13 : w7.cell? ⟨w.heap.size + 1, 13, none⟩ = some (.int .u32 S) := key _ _ _ (by omega) HL.out.state
  have z14 : w7.cell? ⟨w.heap.size + 1, 14, none⟩ = some (.int .u32 R0) := key _ _ _ (by omega) HL.out.rep0
  have z15 : w7.cell? ⟨w.heap.size + 1, 15, none⟩ = some (.int .u32 R1) := key _ _ _ (by omega) HL.out.rep1
  have z16 : w7.cell? ⟨w.heap.size + 1, 16, none⟩ = some (.int .u32 R2) := key _ _ _ (by omega) HL.out.rep2
  have z17 : w7.cell? ⟨w.heap.size + 1, 17, none⟩ = some (.int .u32 R3) := key _ _ _ (by omega) HL.out.rep3
  have hb17 : Below w.heap.size w w7 := hb6.trans (hb7.mono (by omega))
  have l1 : w.heap.size < w7.heap.size := by omega
  have l2 : w.heap.size + 1 < w7.heap.size := by omega
  have l3 : w2.heap.size < w7.heap.size := by omega
  have heq1 := eq4 R0 R1 R2 R3
  clear key m0 m1 m2 m3 mp hb7 hb6
  go_wp2
  go_ret
  exact ⟨rfl, (hb17.alloc (by omega) _).alloc (by simp; omega) _⟩

theorem law_any (xn : Nat) (r0 r1 r2 r3 len dist : Int) (b : Bool) (w : World) (hT : Tabs w) :
    Calls Ybad.prog 3 #[.int .u32 xn, .agg #[.int .u32 r0, .int .u32 r1, .int .u32 r2, .int .u32 r3], .int .i64 len, .int .i64 dist, .bool b] w fun e w' => e = .returned (.bool true) ∧ Below w.heap.size w w' := by
  cases b
  · exact law0 xn (xn % 12) r0 r1 r2 r3 len dist w (Nat.mod_lt _ (by omega)) (by omega) hT
  · exact law1 xn (xn % 12) r0 r1 r2 r3 len dist w (Nat.mod_lt _ (by omega)) (by omega) hT

end Go.Proofs.YbulkbngDoor
