/-
  DERIVED. THE WALKS: checkNodeLen (11) by its two ways; the sentinel's cells carried into later worlds.
-/
import Derived.Test.YbulkbguFmtRows
import Derived.Test.YbulkbguFmtFacts
import Derived.Test.YbulkbguFmtIs
import Derived.WalkKit
import Derived.WalkSpells
import Derived.WalkLawsBesides
import Derived.Stop.LaidErr
namespace Go.Proofs.YbulkbguFmt
open Go.RowKit Go.Extern.Stop Go.Stop Go.Extern

/-- What a walk needs of the world: fmt answers by F; ErrInvalidNode holds the sentinel at a, whose text is s. -/
structure Env (F : Interp) (a : Addr) (s : ByteArray) (w : World) : Prop where
  ans : F.answers w.tape
  glob : w.cell? ⟨0, 0, none⟩ = some (.iface 111 (.pointer (some a)))
  text : w.cell? a = some (.string s)

theorem Env.below {F : Interp} {a : Addr} {s : ByteArray} {w w' : World} (h : Env F a s w) (hb : Below w.heap.size w w') : Env F a s w' :=
  ⟨by rw [hb.tape]; exact h.ans, by rw [hb.cell (World.block_lt_of_cell? _ _ h.glob)]; exact h.glob, by rw [hb.cell (World.block_lt_of_cell? _ _ h.text)]; exact h.text⟩

set_option maxHeartbeats 400000 in
theorem chk_ok (n : Int) (w : World) (h1 : 1 ≤ n) (h2 : n ≤ 255) :
    Calls Ybaf.prog 11 #[.int .u64 n] w fun e w' => e = .returned .nilIface ∧ w' = w := by
  have hz : (n == 0) = false := by simp; omega
  have hd : decide (255 < n) = false := by simp; omega
  go_enter Ybaf.func11, Ybaf.ntmps11
  go_wp2
  go_ret
  exact ⟨rfl, rfl⟩

/-- fmt.Errorf("%w, got %d", ErrInvalidNode, n): a new *fmt.wrapError over the sentinel. -/
def Wrapped (w : World) (v : Value) (e : Ending) (w' : World) : Prop :=
  ∃ (b : Nat) (t : ByteArray), e = .returned (.iface 88 (.pointer (some ⟨b, 0, none⟩))) ∧ Below w.heap.size w w' ∧ w.heap.size ≤ b ∧ b < w'.heap.size ∧
    w'.cell? ⟨b, 0, none⟩ = some (.string t) ∧ w'.cell? ⟨b, 0 + 1, none⟩ = some v

theorem wrapped_mk (w : World) (o : Obj) (t : ByteArray) (v : Value) :
    Wrapped w v (.returned (.iface 88 (.pointer (some ⟨w.heap.size + 1, 0, none⟩)))) ((w.alloc o).alloc (.cells #[.string t, v] 167)).drew :=
  ⟨w.heap.size + 1, t, rfl, (((Below.refl _ _).alloc (Nat.le_refl _) _).alloc (by simp) _).drew, by omega, by simp, by go_simp, by go_simp⟩

set_option maxHeartbeats 400000 in
theorem chk_bad (F : Interp) (a : Addr) (s : ByteArray) (n : Int) (w : World) (hE : Env F a s w) (h0 : 0 ≤ n) (h : n = 0 ∨ 255 < n) :
    Calls Ybaf.prog 11 #[.int .u64 n] w (Wrapped w (.iface 111 (.pointer (some a)))) := by
  have hF := hE.ans
  have hF' := answers_open hF
  have hg := hE.glob
  have hs : (w.alloc (.cells #[.iface 111 (.pointer (some a)), .iface 22 (.int .u64 n)] 20)).cell? a = some (.string s) := cell?_alloc_old _ hE.text
  have hop := Ybaf.opPlain111_119w "fmt.errorf" a s _ hs
  clear hE
  rcases h with rfl | h
  · go_enter Ybaf.func11, Ybaf.ntmps11
    go_wp2
    go_ret
    exact wrapped_mk w _ _ _
  · have hz : (n == 0) = false := by simp; omega
    go_enter Ybaf.func11, Ybaf.ntmps11
    go_wp2
    go_ret
    exact wrapped_mk w _ _ _

end Go.Proofs.YbulkbguFmt
