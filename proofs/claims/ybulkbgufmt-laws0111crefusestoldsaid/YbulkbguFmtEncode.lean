/-
  DERIVED. THE WALK: zzs0111cencode (16), the law's own writer: it computes 'enc'.
-/
import Derived.Test.YbulkbguFmtClock
import Derived.Test.YbulkbguFmtShelf
import Derived.Lib.AppendStr
import Derived.Lib.UnsafeStr
import Derived.Lib.AppendIntMem
namespace Go.Proofs.YbulkbguFmt
open Go.RowKit Go.Extern.Stop Go.Stop Go.Extern

theorem Ybaf.info5 : (Ybaf.prog.info? 5).map (fun i => (i.zero, i.size, i.bytes)) = some (some (.int .u8 0), 1, 1) := by kernel_rfl

/-- What is written when i entries are done. -/
def pre (es : List Ent) (i : Nat) : List UInt8 := 1 :: (Lib.uvarint es.length ++ encE (es.take i))

theorem pre_step {es : List Ent} {i : Nat} (h : i < es.length) : pre es (i + 1) = pre es i ++ Lib.uvarint (es[i]).1.length ++ (es[i]).1 ++ Lib.uvarint (es[i]).2 := by
  unfold pre
  rw [List.take_succ_eq_append_getElem h, encE_append]
  simp [encE, enc1]
theorem pre_all (es : List Ent) : pre es es.length = enc es := by unfold pre enc; rw [List.take_length]
theorem encE_take (es : List Ent) (i : Nat) : (encE (es.take i)).length ≤ (encE es).length := by
  conv => rhs; rw [← List.take_append_drop i es, encE_append]
  simp
theorem pre_length (es : List Ent) (i : Nat) : (pre es i).length ≤ (enc es).length := by
  have := encE_take es i
  unfold pre enc
  simp; omega

set_option maxHeartbeats 1000000 in
set_option maxRecDepth 100000 in
theorem encode_walk (an ac : Option Addr) (bn on cn bc oc cc : Nat) (es : List Ent) (n : Nat) (w : World) (hlen : es.length = n) (hne : 0 < n → an = some ⟨bn, on, none⟩ ∧ ac = some ⟨bc, oc, none⟩)
    (hn : ∀ i (h : i < es.length), w.cell? ⟨bn, on + i, none⟩ = some (.string ⟨((es[i]).1).toArray⟩))
    (hc : ∀ i (h : i < es.length), w.cell? ⟨bc, oc + i, none⟩ = some (.int .u64 (((es[i]).2 : Nat) : Int)))
    (h64 : ∀ e ∈ es, e.2 < 18446744073709551616) (hlim : (enc es).length + 20 ≤ 140737488355328) (hbig : n ≤ 9223372036854775807) :
    Calls Ybaf.prog 16 #[.slice an n cn, .slice ac n cc] w fun e w' => ∃ v, e = .returned v ∧ w'.ownsRow w.heap.size 5 1 v (enc es).length (Lib.byteCells (enc es)) ∧ Below w.heap.size w w' := by
  obtain ⟨i0, hi, hz0, hz1, hz2⟩ := info_parts Ybaf.info5
  have hb1 : Below w.heap.size w (w.alloc (.cells #[.int .u8 1] 5)) := (Below.refl _ _).alloc (Nat.le_refl _) _
  have hown1 : (w.alloc (.cells #[.int .u8 1] 5)).ownsRow w.heap.size 5 1 (.slice (some ⟨w.heap.size, 0, none⟩) 1 1) 1 [.int .u8 1] :=
    ⟨rfl, .inr ⟨w.heap.size, 1, #[.int .u8 1], rfl, Nat.le_refl _, by show (w.heap.push _)[w.heap.size]? = _; exact Array.getElem?_push_size, by omega, by unfold maxLen; omega, rfl, rfl⟩⟩
  have HN : Hid (∀ i (h : i < es.length), w.cell? ⟨bn, on + i, none⟩ = some (.string ⟨((es[i]).1).toArray⟩)) := hn
  have HC : Hid (∀ i (h : i < es.length), w.cell? ⟨bc, oc + i, none⟩ = some (.int .u64 (((es[i]).2 : Nat) : Int))) := hc
  have H64 : Hid (∀ e ∈ es, e.2 < 18446744073709551616) := h64
  have HL : Hid (es.length = n) := hlen
  have HNE : Hid (0 < n → an = some ⟨bn, on, none⟩ ∧ ac = some ⟨bc, oc, none⟩) := hne
  clear hn hc h64 hlen hne
  have hw1 : IntKind.u64.wrap (n : Int) = (n : Int) := by rw [IntKind.wrap_u64]; omega
  have hp0 := pre_length es 0
  have hp0' : (pre es 0).length = 1 + (Lib.uvarint n).length := by rw [← HL.out]; simp [pre, encE]; omega
  go_enter Ybaf.func16, Ybaf.ntmps16
  go_wp2_with fail
  refine (Ybaf.binary_AppendUvarint w.heap.size 1 n (by omega) _ _ _ hown1 (by simp) (by omega)).mono ?_
  rintro e w2 ⟨v2, rfl, hown2, hb2⟩
  have hb2' := hb1.trans hb2
  go_wp2_with fail
  go_loopg [5, 6] (n + 1) (fun gk vb vi wr => ∃ i : Nat, gk = n + 1 - i ∧ vi = .int .i64 (i : Nat) ∧ i ≤ n ∧ wr.ownsRow w.heap.size 5 1 vb (pre es i).length (Lib.byteCells (pre es i)) ∧ Below w.heap.size w wr)
  case atStart =>
    refine ⟨0, rfl, rfl, Nat.zero_le _, ?_, hb2'⟩
    rw [hp0']
    have : Lib.byteCells (pre es 0) = [Value.int .u8 1] ++ Lib.byteCells (Lib.uvarint n) := by
      rw [← HL.out]; simp [pre, encE, Lib.byteCells]
    rw [this]
    exact hown2
  case round =>
    obtain ⟨i, rfl, rfl, hin, hown, hb⟩ := hrel
    clear hown1 hown2 hb1 hb2 hb2' hp0 hp0'
    by_cases hlt : i < n
    · have hlt' : i < es.length := by rw [HL.out]; exact hlt
      obtain ⟨rfl, rfl⟩ := HNE.out (by omega)
      have hcn : ∀ w' : World, Below w.heap.size w w' → w'.cell? ⟨bn, on + i, none⟩ = some (.string ⟨((es[i]).1).toArray⟩) := fun w' hb' => by
        have := HN.out i hlt'
        rw [hb'.cell (World.block_lt_of_cell? _ _ this)]; exact this
      have hcc : ∀ w' : World, Below w.heap.size w w' → w'.cell? ⟨bc, oc + i, none⟩ = some (.int .u64 (((es[i]).2 : Nat) : Int)) := fun w' hb' => by
        have := HC.out i hlt'
        rw [hb'.cell (World.block_lt_of_cell? _ _ this)]; exact this
      have hstep := pre_step hlt'
      have hpl := pre_length es (i + 1)
      have h64 := H64.out _ (List.getElem_mem hlt')
      rw [hstep] at hpl
      have HS : Hid (pre es (i + 1) = pre es i ++ Lib.uvarint (es[i]).1.length ++ (es[i]).1 ++ Lib.uvarint (es[i]).2) := hstep
      clear hstep
      obtain ⟨x, hx⟩ : ∃ x, x = (es[i]).1 := ⟨_, rfl⟩
      obtain ⟨c, hc⟩ : ∃ c, c = (es[i]).2 := ⟨_, rfl⟩
      rw [← hx] at hcn HS hpl
      rw [← hc] at hcc HS hpl h64
      clear hx hc
      simp only [List.length_append] at hpl
      have h0 := hcn wr hb
      have hw2 : IntKind.u64.wrap (x.length : Int) = (x.length : Int) := by rw [IntKind.wrap_u64]; omega
      have hili : (i : Int) < (n : Int) := by omega
      have HCN : Hid (∀ w' : World, Below w.heap.size w w' → w'.cell? ⟨bn, on + i, none⟩ = some (.string ⟨x.toArray⟩)) := hcn
      have HCC : Hid (∀ w' : World, Below w.heap.size w w' → w'.cell? ⟨bc, oc + i, none⟩ = some (.int .u64 (c : Int))) := hcc
      clear hcn hcc
      have hsz : (⟨x.toArray⟩ : ByteArray).size = x.length := by simp [ByteArray.size]
      go_wp2_with fail
      refine (Ybaf.binary_AppendUvarint w.heap.size _ x.length (by omega) _ _ _ hown hb.size (by omega)).mono ?_
      rintro e w3 ⟨v3, rfl, hown3, hb3⟩
      have hb3' := hb.trans hb3
      have h1 := HCN.out w3 hb3'
      go_wp2_with (at_builtin; refine Lib.wpList_append_own_string _ rfl _ _ 35 9 rfl w.heap.size 5 i0 Ybaf.underlying35 Ybaf.underlying9 hi hz0 hz1 hz2 _ _ _ rfl hown3 ⟨x.toArray⟩ rfl ?c3 ?c4 ?c5 ?_)
      case c3 => rw [hsz]; unfold maxLen; omega
      case c4 => rw [hsz]; omega
      case c5 => exact hb3'.size
      intro v4 w4 hown4 hgrow4 _
      have hb4 : Below w.heap.size w w4 := hb3'.grown hgrow4 hb3'.size (fun k hk => (hown3.lt k hk).1)
      have h2 := HCC.out w4 hb4
      clear h0 h1
      go_wp2_with fail
      refine (Ybaf.binary_AppendUvarint w.heap.size _ c h64 _ _ _ hown4 hb4.size (by omega)).mono ?_
      rintro e w5 ⟨v5, rfl, hown5, hb5⟩
      have hb5' := hb4.trans hb5
      clear h2
      go_wp2
      go_roundg (n + 1 - (i + 1))
      case measure => omega
      case rel =>
        refine ⟨i + 1, rfl, by go_num, by omega, ?_, hb5'⟩
        rw [HS.out]
        simp only [List.length_append, Lib.byteCells_append]
        rw [Lib.strCells_toArray, ← List.append_assoc] at hown5
        exact hown5
    · obtain rfl : i = n := by omega
      rw [show (pre es i) = enc es by rw [← HL.out]; exact pre_all es] at hown
      go_wp2
      go_ret
      exact ⟨_, rfl, hown, hb⟩

end Go.Proofs.YbulkbguFmt
