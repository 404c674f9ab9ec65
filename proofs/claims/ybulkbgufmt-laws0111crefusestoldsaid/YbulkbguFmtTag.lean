/-
  DERIVED. THE WALKS: (*Reader).Tag (30).
-/
import Derived.Test.YbulkbguFmtWire
import Derived.Test.YbulkbguFmtTexts
import Derived.Test.YbulkbguFmtWalkN
import Derived.Deep.RegionWith
namespace Go.Proofs.YbulkbguFmt
open Go.RowKit Go.Extern.Stop Go.Stop Go.Extern

theorem new_drewN (w : World) (k : Nat) (cs : Array Value) (t : TypeId) (j : Nat) : ((w.drewN k).alloc (.cells cs t)).cell? ⟨w.heap.size, j, none⟩ = cs[j]? := by
  have := heap_alloc_new (w.drewN k) (.cells cs t)
  have e : (w.drewN k).heap.size = w.heap.size := rfl
  rw [e] at this
  rw [World.cell?, this]; rfl

theorem below_spr (w : World) (k : Nat) (o : Obj) : Below w.heap.size w ((w.drewN k).alloc o).drew :=
  ((below_drewN (Below.refl _ _) k).alloc (Nat.le_refl _) o).drew

/-- ErrAt behind a Sprintf: the variadic slice's block and draws lie between. -/
theorem errAt_spr (n : Int) (s : ByteArray) (w : World) (k : Nat) (o : Obj) (ht : Tab w) (h0 : 0 ≤ n) (h1 : n ≤ 9223372036854775807) (hs : s.size ≤ 1000) :
    Calls Ybaf.prog 33 #[.int .i64 n, .string s] ((w.drewN k).alloc o).drew (Err id w) := by
  have hb := below_spr w k o
  refine (errAt n s _ (ht.below hb) h0 h1 hs).mono ?_
  rintro e w1 ⟨b, rfl, hb1⟩
  exact ⟨b, rfl, hb.trans (hb1.mono hb.size)⟩

set_option maxHeartbeats 800000 in
theorem tag_end (F : Interp) (r ro n cap : Nat) (a : Option Addr) (want : Nat) (w : World) (hF : F.told.answers w.tape) (ht : Tab w) (c0 : w.cell? ⟨r, ro, none⟩ = some (.slice a n cap)) (c1 : w.cell? ⟨r, ro + 1, none⟩ = some (.int .i64 n)) (hn : n ≤ 9223372036854775807) (hw : want < 256) :
    Calls Ybaf.prog 30 #[.pointer (some ⟨r, ro, none⟩), .int .u8 want] w (Err id w) := by
  have hF' := answers_open hF
  have hcz : ∀ k, ((w.drewN k).alloc (.cells #[.iface 5 (.int .u8 (want : Int))] 20)).cell? ⟨w.heap.size, 0, none⟩ = some (.iface 5 (.int .u8 (want : Int))) := fun k => new_drewN w k _ 20 0
  have hsz := sizeA F want (by simp [Lit.wf, IntKind.min, IntKind.max, IntKind.signed, IntKind.bits]; omega) (by omega) (by omega)
  have hco : ∀ k o, ((w.drewN k).alloc o).cell? ⟨r, ro + 1, none⟩ = some (.int .i64 (n : Int)) := fun k o => cell?_alloc_old (W := w.drewN k) o c1
  have HS : Hid ((FmtStop.textOf (F.told "fmt.Sprintf" (readA want) 0)).size ≤ 1000) := hsz
  clear hsz
  go_enter Ybaf.func30, Ybaf.ntmps30
  go_wp2
  go_quiet (fail)
  go_wp2
  go_region_with (go_at_call 33; refine (errAt_spr n _ w _ _ ht (by omega) (by omega) ?_).mono ?_; exact HS.out; rintro e w1 ⟨b, rfl, hb⟩)
  all_goals
    go_wp2
    go_ret
    exact ⟨b, rfl, hb⟩

set_option maxHeartbeats 800000 in
theorem tag_ok (r ro g o cap : Nat) (l : List UInt8) (p want : Nat) (w : World) (hR : Reads r ro g o cap l p w) (hp : p < l.length) (hl : (l[p]'hp).toNat = want) :
    Calls Ybaf.prog 30 #[.pointer (some ⟨r, ro, none⟩), .int .u8 want] w fun e w' => e = .returned .nilIface ∧ ∃ nq, w' = (w.setCell ⟨r, ro + 1, none⟩ (.int .i64 (p + 1 : Nat))).drewN nq := by
  obtain ⟨c0, c1, c2, c3, _, c5, c6⟩ := hR
  have hcell : w.cell? ⟨g, o + p, none⟩ = some (.int .u8 (want : Int)) := by rw [c3 p hp, hl]
  have hne : ((p : Int) == (l.length : Int)) = false := by simp; omega
  have hb2 : (p : Int) < (l.length : Int) := by omega
  have hpb : (p : Int) + 1 ≤ 9223372036854775807 := by omega
  clear c3 hl
  go_enter Ybaf.func30, Ybaf.ntmps30
  go_wp2
  go_quiet (fail)
  go_wp2
  go_quiet (fail)
  go_wp2
  go_ret
  exact ⟨rfl, _, rfl⟩

set_option maxHeartbeats 1600000 in
theorem tag_bad (F : Interp) (r ro g o cap : Nat) (l : List UInt8) (p want got : Nat) (w : World) (hF : F.told.answers w.tape) (ht : Tab w) (hR : Reads r ro g o cap l p w) (hp : p < l.length) (hl : (l[p]'hp).toNat = got) (hne : got ≠ want) (hw : want < 256) :
    Calls Ybaf.prog 30 #[.pointer (some ⟨r, ro, none⟩), .int .u8 want] w (Err id w) := by
  obtain ⟨c0, c1, c2, c3, _, c5, c6⟩ := hR
  have hgot : got < 256 := by rw [← hl]; exact (l[p]'hp).toNat_lt
  have hcell : w.cell? ⟨g, o + p, none⟩ = some (.int .u8 (got : Int)) := by rw [c3 p hp, hl]
  have hne1 : ((p : Int) == (l.length : Int)) = false := by simp; omega
  have hne2 : ((got : Int) != (want : Int)) = true := by simp; omega
  have hb2 : (p : Int) < (l.length : Int) := by omega
  have hF' := answers_open hF
  have hcz0 : ∀ k, ((w.drewN k).alloc (.cells #[.iface 5 (.int .u8 (got : Int)), .iface 5 (.int .u8 (want : Int))] 20)).cell? ⟨w.heap.size, 0, none⟩ = some (.iface 5 (.int .u8 (got : Int))) := fun k => new_drewN w k _ 20 0
  have hcz1 : ∀ k, ((w.drewN k).alloc (.cells #[.iface 5 (.int .u8 (got : Int)), .iface 5 (.int .u8 (want : Int))] 20)).cell? ⟨w.heap.size, 1, none⟩ = some (.iface 5 (.int .u8 (want : Int))) := fun k => new_drewN w k _ 20 1
  have hsz := sizeB F got want (by simp [Lit.wf, IntKind.min, IntKind.max, IntKind.signed, IntKind.bits]; omega) (by simp [Lit.wf, IntKind.min, IntKind.max, IntKind.signed, IntKind.bits]; omega) (by omega) (by omega) (by omega) (by omega)
  have hco : ∀ k o, ((w.drewN k).alloc o).cell? ⟨r, ro + 1, none⟩ = some (.int .i64 (p : Int)) := fun k o => cell?_alloc_old (W := w.drewN k) o c1
  have HS : Hid ((FmtStop.textOf (F.told "fmt.Sprintf" (readB got want) 0)).size ≤ 1000) := hsz
  clear hsz c3 hl hne
  go_enter Ybaf.func30, Ybaf.ntmps30
  go_wp2
  go_quiet (fail)
  go_wp2
  go_quiet (fail)
  go_wp2
  go_region_with (go_at_call 33; refine (errAt_spr p _ w _ _ ht (by omega) (by omega) ?_).mono ?_; exact HS.out; rintro e w1 ⟨b, rfl, hb⟩)
  all_goals
    go_wp2
    go_ret
    exact ⟨b, rfl, hb⟩

end Go.Proofs.YbulkbguFmt
