/-
  DERIVED. THE WALK: (*decoder).clock (17): what it leaves ('Clocked'); the ways on which it refuses ahead of its loop.
-/
import Derived.Test.YbulkbguFmtDnode
import Derived.Test.YbulkbguFmtDec
namespace Go.Proofs.YbulkbguFmt
open Go.RowKit Go.Extern.Stop Go.Stop Go.Extern

/-- The entries' cells. -/
def ecells : List Ent → List Value
  | [] => []
  | e :: es => .string ⟨e.1.toArray⟩ :: .int .u64 (e.2 : Int) :: ecells es

theorem ecells_length : ∀ es : List Ent, (ecells es).length = es.length * 2
  | [] => rfl
  | e :: es => by simp [ecells, ecells_length es]; omega
theorem ecells_append : ∀ xs ys : List Ent, ecells (xs ++ ys) = ecells xs ++ ecells ys
  | [], _ => rfl
  | e :: es, ys => by simp [ecells, ecells_append es ys]

abbrev tupC : Value → Value := fun v => .tuple #[.agg #[.slice none 0 0], v]

/-- WHAT clock LEAVES. -/
def Clocked (r ro g o cap : Nat) (l : List UInt8) (p : Nat) (w : World) (e : Ending) (w' : World) : Prop :=
  (dec (l.drop p) = none ∧ ErrK r tupC w e w') ∨
  ∃ (es : List Ent) (k : Nat) (v : Value), dec (l.drop p) = some (es, k) ∧ e = .returned (.tuple #[.agg #[v], .nilIface]) ∧ Kept r w w' ∧ Reads r ro g o cap l (p + k) w' ∧
    w'.ownsRow w.heap.size 50 2 v es.length (ecells es) ∧ (es = [] → v = .slice none 0 0)

theorem Reads.below {r ro g o cap p : Nat} {l : List UInt8} {w w' : World} (h : Reads r ro g o cap l p w) (hb : Below w.heap.size w w') : Reads r ro g o cap l p w' := by
  have hr : r < w.heap.size := World.block_lt_of_cell? _ _ h.data
  refine ⟨by rw [hb.cell (by exact hr)]; exact h.data, by rw [hb.cell (by exact hr)]; exact h.pos, by rw [hb.frozen (by exact hr)]; exact h.free, fun j hj => ?_, h.le, h.fits, h.big⟩
  have := h.cells j hj
  rw [hb.cell (World.block_lt_of_cell? _ _ this)]; exact this

theorem Kept.alloc {r : Nat} {w : World} (o : Obj) : Kept r w (w.alloc o) := Kept.of_below ((Below.refl _ _).alloc (Nat.le_refl _) _)
theorem Kept.setCell {r : Nat} {w w' : World} (h : Kept r w w') {a : Addr} (ha : w.heap.size ≤ a.block) (v : Value) : Kept r w (w'.setCell a v) :=
  ⟨h.os, h.tape, h.output, by have := h.size; simpa using this, fun k hk hr => by rw [Below.heap_setCell _ _ _ _ (by omega)]; exact h.block k hk hr⟩

theorem Reads.setCell {r ro g o cap p : Nat} {l : List UInt8} {w : World} (h : Reads r ro g o cap l p w) {a : Addr} (v : Value) (hr : a.block ≠ r) (hg : a.block ≠ g) : Reads r ro g o cap l p (w.setCell a v) := by
  have key : ∀ x : Addr, x.block ≠ a.block → (w.setCell a v).cell? x = w.cell? x := fun x hx => World.cell?_of_block (w := w) (Below.heap_setCell w a v x.block hx)
  refine ⟨by rw [key _ (by exact Ne.symm hr)]; exact h.data, by rw [key _ (by exact Ne.symm hr)]; exact h.pos, ?_, fun j hj => by rw [key _ (by exact Ne.symm hg)]; exact h.cells j hj, h.le, h.fits, h.big⟩
  rw [World.frozen?_setCell]; exact h.free

theorem tagM_ok (r ro g o cap : Nat) (l : List UInt8) (p want : Nat) (w : World) (hR : Reads r ro g o cap l p w) (hp : p < l.length) (hl : (l[p]'hp).toNat = want) :
    Calls Ybaf.prog 30 #[.pointer (some ⟨r, ro, none⟩), .int .u8 want] w fun e w' => e = .returned .nilIface ∧ Moved r ro (p + 1) w w' := by
  refine (tag_ok r ro g o cap l p want w hR hp hl).mono ?_
  rintro e w' ⟨rfl, nq, rfl⟩
  exact ⟨rfl, Moved.of_set hR.pos nq⟩

/-- Tag where it refuses. -/
theorem tag_no (F : Interp) (a : Addr) (s : ByteArray) (B r ro g o cap : Nat) (l : List UInt8) (p : Nat) (w : World) (hE : Base F a s B w) (hR : Reads r ro g o cap l p w) (h : ∀ hp : p < l.length, (l[p]'hp).toNat ≠ 1) :
    Calls Ybaf.prog 30 #[.pointer (some ⟨r, ro, none⟩), .int .u8 1] w (ErrK r id w) := by
  by_cases hp : p < l.length
  · refine (tag_bad F r ro g o cap l p 1 _ w hE.env.ans hE.tab hR hp rfl (h hp) (by omega)).mono ?_
    intro e w' h; exact h.toK (Kept.refl _ _)
  · obtain rfl : p = l.length := by have := hR.le; omega
    have := hR.fits
    have := hR.big
    refine (tag_end F r ro l.length cap (some ⟨g, o, none⟩) 1 w hE.env.ans hE.tab hR.data hR.pos (by omega) (by omega)).mono ?_
    intro e w' h; exact h.toK (Kept.refl _ _)

theorem dec_no_tag {l : List UInt8} {p : Nat} (h : ∀ hp : p < l.length, (l[p]'hp).toNat ≠ 1) : dec (l.drop p) = none := by
  by_cases hp : p < l.length
  · rw [List.drop_eq_getElem_cons hp]
    simp [dec, h hp]
  · rw [List.drop_eq_nil_of_le (by omega)]; rfl

theorem dec_tag {l : List UInt8} {p : Nat} (hp : p < l.length) (h : (l[p]'hp).toNat = 1) : dec (l.drop p) = match rd (l.drop (p + 1)) with
      | none => none
      | some (n, k) => if n ≤ ((l.drop (p + 1)).length - k) / 3 then
          match decN n none ((l.drop (p + 1)).drop k) with
          | none => none
          | some (es, k') => some (es, 1 + k + k')
        else none := by
  rw [List.drop_eq_getElem_cons hp]
  simp only [dec]
  rw [if_pos h]
  rfl

set_option maxHeartbeats 800000 in
theorem clock_tag (F : Interp) (a : Addr) (s : ByteArray) (B r ro g o cap : Nat) (l : List UInt8) (p : Nat) (w : World) (hE : Base F a s B w) (hR : Reads r ro g o cap l p w) (h : ∀ hp : p < l.length, (l[p]'hp).toNat ≠ 1) :
    Calls Ybaf.prog 17 #[.pointer (some ⟨r, ro, none⟩)] w (ErrK r tupC w) := by
  go_enter Ybaf.func17, Ybaf.ntmps17
  go_wp2_with fail
  have hb0 : Below w.heap.size w (w.alloc (.cells #[.slice none 0 0] 46)) := (Below.refl _ _).alloc (Nat.le_refl _) _
  refine (tag_no F a s B r ro g o cap l p _ (hE.below (hb0.mono hE.le)) (hR.below hb0) h).mono ?_
  rintro e w1 ⟨u, b, hu, rfl, hk⟩
  have hr : r < w.heap.size := World.block_lt_of_cell? _ _ hR.data
  have hc : w1.cell? ⟨w.heap.size, 0, none⟩ = some (.slice none 0 0) := by
    rw [hk.cell (by simp) (by show w.heap.size ≠ r; omega)]; go_simp
  have hf : w1.frozen? ⟨w.heap.size, 0, none⟩ = false := by
    rw [hk.frozen (by simp) (by show w.heap.size ≠ r; omega)]; go_simp
  go_wp2
  refine bodyPost_ret (v := .tuple #[.agg #[.slice none 0 0], .iface u (.pointer (some ⟨b, 0, none⟩))]) (by simp [results, Ybaf.results17, go_sem, hc]) rfl ⟨u, b, hu, rfl, ?_⟩
  exact ((Kept.alloc _).trans hk).setCell (Nat.le_refl _) _

/-- Count where it refuses. -/
theorem count_bad (F : Interp) (a : Addr) (s : ByteArray) (B r ro g o cap : Nat) (l : List UInt8) (p : Nat) (w : World) (hE : Base F a s B w) (hB : B ≤ r) (hR : Reads r ro g o cap l p w) (h : ∀ n k, rd (l.drop p) = some (n, k) → ¬ n ≤ (l.length - (p + k)) / 3) :
    Calls Ybaf.prog 31 #[.pointer (some ⟨r, ro, none⟩), .int .i64 3] w (ErrK r tupI w) := by
  cases hr : rd (l.drop p) with
  | none => exact count_no F a s B r ro g o cap l p w hE hR hr
  | some x =>
    obtain ⟨n, k⟩ := x
    exact count_big F a s B r ro g o cap l p n k w hE hB hR hr (by have := h n k hr; omega)

set_option maxHeartbeats 800000 in
theorem clock_count (F : Interp) (a : Addr) (s : ByteArray) (B r ro g o cap : Nat) (l : List UInt8) (p : Nat) (w : World) (hE : Base F a s B w) (hB : B ≤ r) (hR : Reads r ro g o cap l p w) (hg : g ≠ r) (hp : p < l.length) (h1 : (l[p]'hp).toNat = 1) (h : ∀ n k, rd (l.drop (p + 1)) = some (n, k) → ¬ n ≤ (l.length - (p + 1 + k)) / 3) :
    Calls Ybaf.prog 17 #[.pointer (some ⟨r, ro, none⟩)] w (ErrK r tupC w) := by
  have hr : r < w.heap.size := World.block_lt_of_cell? _ _ hR.data
  have hb0 : Below w.heap.size w (w.alloc (.cells #[.slice none 0 0] 46)) := (Below.refl _ _).alloc (Nat.le_refl _) _
  have hE1 := hE.below (hb0.mono hE.le)
  have hR1 := hR.below hb0
  go_enter Ybaf.func17, Ybaf.ntmps17
  go_wp2_with fail
  refine (tagM_ok r ro g o cap l p 1 _ hR1 hp h1).mono ?_
  rintro e w2 ⟨rfl, hm⟩
  have hE2 := hE1.below (hm.below hB)
  have hR2 := hR1.moved hm hg (by omega)
  go_wp2_with fail
  refine (count_bad F a s B r ro g o cap l (p + 1) _ hE2 hB hR2 h).mono ?_
  rintro e w3 ⟨u, b, hu, rfl, hk⟩
  have hk' := hm.kept.trans hk
  have hc : w3.cell? ⟨w.heap.size, 0, none⟩ = some (.slice none 0 0) := by
    rw [hk'.cell (by simp) (by show w.heap.size ≠ r; omega)]; go_simp
  have hf : w3.frozen? ⟨w.heap.size, 0, none⟩ = false := by
    rw [hk'.frozen (by simp) (by show w.heap.size ≠ r; omega)]; go_simp
  go_wp2
  refine bodyPost_ret (v := .tuple #[.agg #[.slice none 0 0], .iface u (.pointer (some ⟨b, 0, none⟩))]) (by simp [results, Ybaf.results17, go_sem, hc]) rfl ⟨u, b, hu, rfl, ?_⟩
  exact ((Kept.alloc _).trans hk').setCell (Nat.le_refl _) _

set_option maxHeartbeats 800000 in
theorem clock_zero (r ro g o cap : Nat) (l : List UInt8) (p k0 : Nat) (w : World) (hR : Reads r ro g o cap l p w) (hg : g ≠ r) (hp : p < l.length) (h1 : (l[p]'hp).toNat = 1) (h : rd (l.drop (p + 1)) = some (0, k0)) :
    Calls Ybaf.prog 17 #[.pointer (some ⟨r, ro, none⟩)] w fun e w' => e = .returned (.tuple #[.agg #[.slice none 0 0], .nilIface]) ∧ Kept r w w' ∧ Reads r ro g o cap l (p + 1 + k0) w' := by
  have hr : r < w.heap.size := World.block_lt_of_cell? _ _ hR.data
  have hb0 : Below w.heap.size w (w.alloc (.cells #[.slice none 0 0] 46)) := (Below.refl _ _).alloc (Nat.le_refl _) _
  have hR1 := hR.below hb0
  have hkl := (rd_some h).2.2.2.2.1
  rw [List.length_drop] at hkl
  go_enter Ybaf.func17, Ybaf.ntmps17
  go_wp2_with fail
  refine (tagM_ok r ro g o cap l p 1 _ hR1 hp h1).mono ?_
  rintro e w2 ⟨rfl, hm⟩
  have hR2 := hR1.moved hm hg (by omega)
  go_wp2_with fail
  refine (count_ok r ro g o cap l (p + 1) 0 k0 _ hR2 h (by omega)).mono ?_
  rintro e w3 ⟨rfl, hm3⟩
  have hR3 := hR2.moved hm3 hg (by omega)
  have hk' := hm.kept.trans hm3.kept
  have hc : w3.cell? ⟨w.heap.size, 0, none⟩ = some (.slice none 0 0) := by
    rw [hk'.cell (by simp) (by show w.heap.size ≠ r; omega)]; go_simp
  have hf : w3.frozen? ⟨w.heap.size, 0, none⟩ = false := by
    rw [hk'.frozen (by simp) (by show w.heap.size ≠ r; omega)]; go_simp
  go_wp2
  refine wp_loop_rounds 1 ?_
  rw [rounds_succ]
  go_wp2
  refine bodyPost_ret (v := .tuple #[.agg #[.slice none 0 0], .nilIface]) (by simp [results, Ybaf.results17, go_sem, hc]) rfl ⟨rfl, ((Kept.alloc _).trans hk').setCell (Nat.le_refl _) _, ?_⟩
  have hgl : g < w.heap.size := World.block_lt_of_cell? _ _ (hR.cells p hp)
  exact hR3.setCell _ (by show w.heap.size ≠ r; omega) (by show w.heap.size ≠ g; omega)

end Go.Proofs.YbulkbguFmt
