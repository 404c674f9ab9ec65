/-
  DERIVED. THE READER MOVED ON: 'Moved': its position alone has turned; what a walk needs of the world below a bound B ('Base'); what is kept but for the reader's block ('Kept'); errors that come back so ('ErrK').
-/
import Derived.Test.YbulkbguFmtWire
import Derived.Test.YbulkbguFmtNode
import Derived.Test.YbulkbguFmtTexts
namespace Go.Proofs.YbulkbguFmt
open Go.RowKit Go.Extern.Stop Go.Stop Go.Extern

/-- The Reader at ⟨r, ro⟩ now stands at p'; nothing else has turned. -/
structure Moved (r ro p' : Nat) (w w' : World) : Prop where
  os : w'.os = w.os
  tape : w'.tape = w.tape
  output : w'.output = w.output
  size : w'.heap.size = w.heap.size
  block : ∀ k, k ≠ r → w'.heap[k]? = w.heap[k]?
  data : w'.cell? ⟨r, ro, none⟩ = w.cell? ⟨r, ro, none⟩
  pos : w'.cell? ⟨r, ro + 1, none⟩ = some (.int .i64 p')
  free : w'.frozen? ⟨r, ro + 1, none⟩ = w.frozen? ⟨r, ro + 1, none⟩

theorem Moved.of_set {r ro p' : Nat} {w : World} {v : Value} (h : w.cell? ⟨r, ro + 1, none⟩ = some v) (nq : Nat) : Moved r ro p' w ((w.setCell ⟨r, ro + 1, none⟩ (.int .i64 (p' : Int))).drewN nq) := by
  refine ⟨rfl, rfl, rfl, ?_, ?_, ?_, ?_, ?_⟩
  · show (w.setCell ⟨r, ro + 1, none⟩ (.int .i64 (p' : Int))).heap.size = _
    simp
  · intro k hk
    exact Below.heap_setCell w _ _ k hk
  · exact World.cell?_setCell_other _ _ _ _ (by simp)
  · exact World.cell?_setCell_same _ _ _ h
  · exact World.frozen?_setCell _ _ _ _

theorem Moved.drewN {r ro p : Nat} {w w' : World} (h : Moved r ro p w w') (n : Nat) : Moved r ro p w (w'.drewN n) :=
  ⟨h.os, h.tape, h.output, h.size, h.block, h.data, h.pos, h.free⟩

theorem Moved.trans {r ro p q : Nat} {a b c : World} (h : Moved r ro p a b) (k : Moved r ro q b c) : Moved r ro q a c :=
  ⟨k.os.trans h.os, k.tape.trans h.tape, k.output.trans h.output, k.size.trans h.size, fun i hi => (k.block i hi).trans (h.block i hi), k.data.trans h.data, k.pos, k.free.trans h.free⟩

theorem Moved.below {r ro p B : Nat} {w w' : World} (h : Moved r ro p w w') (hB : B ≤ r) : Below B w w' :=
  ⟨h.os, h.tape, h.output, by rw [h.size]; exact Nat.le_refl _, fun k hk => h.block k (by omega)⟩

theorem Moved.cell {r ro p : Nat} {w w' : World} (h : Moved r ro p w w') {a : Addr} (ha : a.block ≠ r) : w'.cell? a = w.cell? a := World.cell?_of_block (w := w) (h.block a.block ha)

theorem Reads.moved {r ro g o cap p p' : Nat} {l : List UInt8} {w w' : World} (h : Reads r ro g o cap l p w) (hm : Moved r ro p' w w') (hg : g ≠ r) (hp : p' ≤ l.length) : Reads r ro g o cap l p' w' :=
  ⟨by rw [hm.data]; exact h.data, hm.pos, by rw [hm.free]; exact h.free, fun j hj => by rw [hm.cell (by exact hg)]; exact h.cells j hj, hp, h.fits, h.big⟩

/-- What a walk needs of the world, all of it below B. -/
structure Base (F : Interp) (a : Addr) (s : ByteArray) (B : Nat) (w : World) : Prop where
  env : Env F.told a s w
  tab : Tab w
  b2 : 2 < B
  ab : a.block < B
  le : B ≤ w.heap.size

theorem Base.below {F : Interp} {a : Addr} {s : ByteArray} {B : Nat} {w w' : World} (h : Base F a s B w) (hb : Below B w w') : Base F a s B w' := by
  have hb2 := h.b2
  refine ⟨⟨by rw [hb.tape]; exact h.env.ans, by rw [hb.cell (by show 0 < B; omega)]; exact h.env.glob, by rw [hb.cell h.ab]; exact h.env.text⟩, ?_, h.b2, h.ab, Nat.le_trans h.le hb.size⟩
  have ht := h.tab
  unfold Tab Lib.TabIs at *
  exact var?_below hb (by kernel_rfl : Ybaf.prog.globalNamed "internal/strconv.uint64pow10" = some 2) hb2 ht

/-- Of the blocks that were there, block r alone may have turned. -/
structure Kept (r : Nat) (w w' : World) : Prop where
  os : w'.os = w.os
  tape : w'.tape = w.tape
  output : w'.output = w.output
  size : w.heap.size ≤ w'.heap.size
  block : ∀ k, k < w.heap.size → k ≠ r → w'.heap[k]? = w.heap[k]?

theorem Kept.of_below {r : Nat} {w w' : World} (h : Below w.heap.size w w') : Kept r w w' := ⟨h.os, h.tape, h.output, h.size, fun k hk _ => h.block k hk⟩
theorem Kept.trans {r : Nat} {a b c : World} (h : Kept r a b) (k : Kept r b c) : Kept r a c :=
  ⟨k.os.trans h.os, k.tape.trans h.tape, k.output.trans h.output, Nat.le_trans h.size k.size, fun i hi hr => (k.block i (Nat.lt_of_lt_of_le hi h.size) hr).trans (h.block i hi hr)⟩
theorem Moved.kept {r ro p : Nat} {w w' : World} (h : Moved r ro p w w') : Kept r w w' := ⟨h.os, h.tape, h.output, by rw [h.size]; exact Nat.le_refl _, fun k _ hk => h.block k hk⟩
theorem Kept.below {r B : Nat} {w w' : World} (h : Kept r w w') (hB : B ≤ r) (hw : B ≤ w.heap.size) : Below B w w' := ⟨h.os, h.tape, h.output, h.size, fun k hk => h.block k (by omega) (by omega)⟩
theorem Kept.cell {r : Nat} {w w' : World} (h : Kept r w w') {a : Addr} (ha : a.block < w.heap.size) (hr : a.block ≠ r) : w'.cell? a = w.cell? a := World.cell?_of_block (w := w) (h.block a.block ha hr)
theorem Kept.frozen {r : Nat} {w w' : World} (h : Kept r w w') {a : Addr} (ha : a.block < w.heap.size) (hr : a.block ≠ r) : w'.frozen? a = w.frozen? a := World.frozen?_of_block (w := w) (h.block a.block ha hr)
theorem Kept.refl (r : Nat) (w : World) : Kept r w w := ⟨rfl, rfl, rfl, Nat.le_refl _, fun _ _ _ => rfl⟩

/-- An error came back; of what was there block r alone may have turned. -/
def ErrK (r : Nat) (mk : Value → Value) (w : World) (e : Ending) (w' : World) : Prop :=
  ∃ u b : Nat, (u = 111 ∨ u = 88) ∧ e = .returned (mk (.iface u (.pointer (some ⟨b, 0, none⟩)))) ∧ Kept r w w'

theorem Err.toK {r : Nat} {mk : Value → Value} {w w0 : World} {e : Ending} {w' : World} (h : Err mk w e w') (hb : Kept r w0 w) : ErrK r mk w0 e w' := by
  obtain ⟨b, rfl, hb1⟩ := h
  exact ⟨111, b, Or.inl rfl, rfl, hb.trans (Kept.of_below hb1)⟩

/-- (*Reader).Uvarint where it accepts. -/
theorem uvM_ok (r ro g o cap : Nat) (l : List UInt8) (p v k : Nat) (w : World) (hR : Reads r ro g o cap l p w) (h : rd (l.drop p) = some (v, k)) :
    Calls Ybaf.prog 34 #[.pointer (some ⟨r, ro, none⟩)] w fun e w' => e = .returned (.tuple #[.int .u64 v, .nilIface]) ∧ Moved r ro (p + k) w w' := by
  refine (uv_ok r ro g o cap l p v k w hR h).mono ?_
  rintro e w' ⟨rfl, nq, rfl⟩
  exact ⟨rfl, Moved.of_set hR.pos nq⟩

end Go.Proofs.YbulkbguFmt
