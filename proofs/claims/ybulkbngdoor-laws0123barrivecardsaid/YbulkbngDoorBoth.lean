/-
  DERIVED. arrive AND expect GIVE THE SAME: one choice of state and distances for both.
-/
import Derived.Test.YbulkbngDoorExp
import Derived.Test.YbulkbngDoorArrR
namespace Go.Proofs.YbulkbngDoor
open Go.RowKit Go.Stop

/-- The four tables as the program lays them: global k's block is k. -/
structure Tabs (w : World) : Prop where
  a0 : ∀ s : Nat, s < 12 → w.cell? ⟨0, s, none⟩ = some (.int .u32 (litOf s))
  a1 : ∀ s : Nat, s < 12 → w.cell? ⟨1, s, none⟩ = some (.int .u32 (pickOf s 9 11))
  a2 : ∀ s : Nat, s < 12 → w.cell? ⟨2, s, none⟩ = some (.int .u32 (pickOf s 8 11))
  a3 : ∀ s : Nat, s < 12 → w.cell? ⟨3, s, none⟩ = some (.int .u32 (pickOf s 7 10))

/-- The memory that arrive reads: node 1 comes from node f, whose cells begin at q. -/
structure Mem (f : Int) (q pb g s : Nat) (r0 r1 r2 r3 len dist : Int) (w : World) : Prop where
  hP : w.cell? ⟨pb, 9502, none⟩ = some (.slice (some ⟨g, 0, none⟩) 2 2)
  c10 : w.cell? ⟨g, 10, none⟩ = some (.int .i64 f)
  c11 : w.cell? ⟨g, 11, none⟩ = some (.int .i64 len)
  c12 : w.cell? ⟨g, 12, none⟩ = some (.int .i64 dist)
  d4 : w.cell? ⟨g, q + 4, none⟩ = some (.int .u32 s)
  d5 : w.cell? ⟨g, q + 5, none⟩ = some (.int .u32 r0)
  d6 : w.cell? ⟨g, q + 6, none⟩ = some (.int .u32 r1)
  d7 : w.cell? ⟨g, q + 7, none⟩ = some (.int .u32 r2)
  d8 : w.cell? ⟨g, q + 8, none⟩ = some (.int .u32 r3)
  cells : ∀ j, j < 18 → ∃ v, w.cell? ⟨g, j, none⟩ = some v
  free : ∀ j, w.frozen? ⟨g, j, none⟩ = false

abbrev ExpGives (s : Nat) (r0 r1 r2 r3 len dist S R0 R1 R2 R3 : Int) : Prop :=
  ∀ w, Calls Ybad.prog 5 #[.int .u32 s, agg4 r0 r1 r2 r3, .int .i64 len, .int .i64 dist] w fun e w' => e = .returned (.tuple #[.int .u32 S, agg4 R0 R1 R2 R3]) ∧ Below w.heap.size w w'
abbrev ArrGives (f : Int) (q s : Nat) (r0 r1 r2 r3 len dist S R0 R1 R2 R3 : Int) : Prop :=
  ∀ pb g w, Tabs w → Mem f q pb g s r0 r1 r2 r3 len dist w → Calls Ybad.prog 4 #[.pointer (some ⟨pb, 0, none⟩), .int .i64 1] w fun e w' => e = .returned (.tuple #[]) ∧ Left g S R0 R1 R2 R3 w w'

theorem both (s : Nat) (hs : s < 12) (r0 r1 r2 r3 len dist : Int) : ∃ S R0 R1 R2 R3, ExpGives s r0 r1 r2 r3 len dist S R0 R1 R2 R3 ∧ ArrGives 0 0 s r0 r1 r2 r3 len dist S R0 R1 R2 R3 ∧ ArrGives 1 9 s r0 r1 r2 r3 len dist S R0 R1 R2 R3 := by
  by_cases hd : dist = 0
  · subst hd
    exact ⟨_, _, _, _, _, fun w => exp_lit s r0 r1 r2 r3 len w (by omega) (by omega),
      fun pb g w ht h => arr_lit0 pb g s r0 r1 r2 r3 len 0 _ w h.hP h.c10 h.c11 h.c12 hs h.d4 h.d5 h.d6 h.d7 h.d8 h.cells h.free rfl (ht.a0 s hs),
      fun pb g w ht h => arr_lit1 pb g s r0 r1 r2 r3 len 0 _ w h.hP h.c10 h.c11 h.c12 hs h.d4 h.d5 h.d6 h.d7 h.d8 h.cells h.free rfl (ht.a0 s hs)⟩
  have hdb : (dist == 0) = false := by simpa using hd
  by_cases hl : len = 1
  · subst hl
    exact ⟨_, _, _, _, _, fun w => exp_short s r0 r1 r2 r3 dist w hdb,
      fun pb g w ht h => arr_short0 pb g s r0 r1 r2 r3 1 dist _ w h.hP h.c10 h.c11 h.c12 hs h.d4 h.d5 h.d6 h.d7 h.d8 h.cells h.free hdb rfl (ht.a1 s hs),
      fun pb g w ht h => arr_short1 pb g s r0 r1 r2 r3 1 dist _ w h.hP h.c10 h.c11 h.c12 hs h.d4 h.d5 h.d6 h.d7 h.d8 h.cells h.free hdb rfl (ht.a1 s hs)⟩
  have hlb : (len == 1) = false := by simpa using hl
  obtain ⟨d, hw⟩ : ∃ d, wrap64 (dist - 1) % 4294967296 = d := ⟨_, rfl⟩
  by_cases e0 : r0 = d
  · have b0 : (r0 == d) = true := by simpa using e0
    have hk : firstAt r0 r1 r2 r3 d = 0 := by unfold firstAt; simp [e0]
    exact ⟨_, _, _, _, _, fun w => exp_rep0 s r0 r1 r2 r3 len dist d w hdb hlb hw  b0,
      fun pb g w ht h => arr_rep00 pb g s r0 r1 r2 r3 len dist _ w h.hP h.c10 h.c11 h.c12 hs h.d4 h.d5 h.d6 h.d7 h.d8 h.cells h.free d hdb hlb hw hk (ht.a2 s hs),
      fun pb g w ht h => arr_rep01 pb g s r0 r1 r2 r3 len dist _ w h.hP h.c10 h.c11 h.c12 hs h.d4 h.d5 h.d6 h.d7 h.d8 h.cells h.free d hdb hlb hw hk (ht.a2 s hs)⟩
  have b0 : (r0 == d) = false := by simpa using e0
  by_cases e1 : r1 = d
  · have b1 : (r1 == d) = true := by simpa using e1
    have hk : firstAt r0 r1 r2 r3 d = 1 := by unfold firstAt; simp [e0, e1]
    exact ⟨_, _, _, _, _, fun w => exp_rep1 s r0 r1 r2 r3 len dist d w hdb hlb hw b0 b1,
      fun pb g w ht h => arr_rep10 pb g s r0 r1 r2 r3 len dist _ w h.hP h.c10 h.c11 h.c12 hs h.d4 h.d5 h.d6 h.d7 h.d8 h.cells h.free d hdb hlb hw hk (ht.a2 s hs),
      fun pb g w ht h => arr_rep11 pb g s r0 r1 r2 r3 len dist _ w h.hP h.c10 h.c11 h.c12 hs h.d4 h.d5 h.d6 h.d7 h.d8 h.cells h.free d hdb hlb hw hk (ht.a2 s hs)⟩
  have b1 : (r1 == d) = false := by simpa using e1
  by_cases e2 : r2 = d
  · have b2 : (r2 == d) = true := by simpa using e2
    have hk : firstAt r0 r1 r2 r3 d = 2 := by unfold firstAt; simp [e0, e1, e2]
    exact ⟨_, _, _, _, _, fun w => exp_rep2 s r0 r1 r2 r3 len dist d w hdb hlb hw b0 b1 b2,
      fun pb g w ht h => arr_rep20 pb g s r0 r1 r2 r3 len dist _ w h.hP h.c10 h.c11 h.c12 hs h.d4 h.d5 h.d6 h.d7 h.d8 h.cells h.free d hdb hlb hw hk (ht.a2 s hs),
      fun pb g w ht h => arr_rep21 pb g s r0 r1 r2 r3 len dist _ w h.hP h.c10 h.c11 h.c12 hs h.d4 h.d5 h.d6 h.d7 h.d8 h.cells h.free d hdb hlb hw hk (ht.a2 s hs)⟩
  have b2 : (r2 == d) = false := by simpa using e2
  by_cases e3 : r3 = d
  · have b3 : (r3 == d) = true := by simpa using e3
    have hk : firstAt r0 r1 r2 r3 d = 3 := by unfold firstAt; simp [e0, e1, e2, e3]
    exact ⟨_, _, _, _, _, fun w => exp_rep3 s r0 r1 r2 r3 len dist d w hdb hlb hw b0 b1 b2 b3,
      fun pb g w ht h => arr_rep30 pb g s r0 r1 r2 r3 len dist _ w h.hP h.c10 h.c11 h.c12 hs h.d4 h.d5 h.d6 h.d7 h.d8 h.cells h.free d hdb hlb hw hk (ht.a2 s hs),
      fun pb g w ht h => arr_rep31 pb g s r0 r1 r2 r3 len dist _ w h.hP h.c10 h.c11 h.c12 hs h.d4 h.d5 h.d6 h.d7 h.d8 h.cells h.free d hdb hlb hw hk (ht.a2 s hs)⟩
  have b3 : (r3 == d) = false := by simpa using e3
  have hk : firstAt r0 r1 r2 r3 d = -1 := by unfold firstAt; simp [e0, e1, e2, e3]
  exact ⟨_, _, _, _, _, fun w => exp_new s r0 r1 r2 r3 len dist d w hdb hlb hw b0 b1 b2 b3,
    fun pb g w ht h => arr_new0 pb g s r0 r1 r2 r3 len dist _ w h.hP h.c10 h.c11 h.c12 hs h.d4 h.d5 h.d6 h.d7 h.d8 h.cells h.free d hdb hlb hw hk (ht.a3 s hs),
    fun pb g w ht h => arr_new1 pb g s r0 r1 r2 r3 len dist _ w h.hP h.c10 h.c11 h.c12 hs h.d4 h.d5 h.d6 h.d7 h.d8 h.cells h.free d hdb hlb hw hk (ht.a3 s hs)⟩

end Go.Proofs.YbulkbngDoor
