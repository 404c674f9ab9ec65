/-
  DERIVED. THE WALKS: zzs0111cnodes (14), zzs0111ccounters (15).
-/
import Derived.Test.YbulkbguFmtNames
import Derived.Test.YbulkbguFmtEncode
import Derived.Sort.OwnSorted
import Derived.Lib.RowBridge
namespace Go.Proofs.YbulkbguFmt
open Go.RowKit Go.Extern.Stop Go.Stop Go.Extern

theorem Ybaf.info9' : (Ybaf.prog.info? 9).map (fun i => (i.zero, i.size, i.bytes)) = some (some (.string ⟨#[]⟩), 1, 16) := by kernel_rfl
theorem Ybaf.info22' : (Ybaf.prog.info? 22).map (fun i => (i.zero, i.size, i.bytes)) = some (some (.int .u64 0), 1, 8) := by kernel_rfl

abbrev strV (x : List UInt8) : Value := .string ⟨x.toArray⟩

theorem Hid.into {p : Prop} (h : p) : Hid p := h

/-- A good list of names. -/
def Names (ns : List (List UInt8)) : Prop := List.Pairwise (· < ·) ns ∧ ∀ x ∈ ns, 1 ≤ x.length ∧ x.length ≤ 255

theorem own_cut {w : World} {base e g n m cap : Nat} {xs ys : List Value} (h : w.ownsRow base e 1 (.slice (some ⟨g, 0, none⟩) n cap) n (xs ++ ys)) (hm : xs.length = m) : w.ownsRow base e 1 (.slice (some ⟨g, 0, none⟩) m cap) m xs := by
  have hl := h.1
  rw [List.length_append, hm] at hl
  refine ⟨by omega, .inr ?_⟩
  rcases h.2 with ⟨h0, _⟩ | ⟨g', cap', cur, hv, h1, h2, h3, h4, h5, h6⟩
  · cases h0
  · cases hv
    refine ⟨g, cap, cur, rfl, h1, h2, by omega, h4, h5, ?_⟩
    have e : cur.toList.take (m * 1) = (cur.toList.take (n * 1)).take (m * 1) := by rw [List.take_take, Nat.min_eq_left (by omega)]
    rw [e, h6, Nat.mul_one, ← hm, List.take_left]

set_option maxHeartbeats 1000000 in
set_option maxRecDepth 100000 in
theorem nodes_walk (ai : Option Addr) (bi oi n ci : Nat) (Sx : Nat → ByteArray) (w : World) (hne : 0 < n → ai = some ⟨bi, oi, none⟩) (hc : ∀ j, j < n → w.cell? ⟨bi, oi + j, none⟩ = some (.string (Sx j))) (hn : n ≤ 1024) :
    Calls Ybaf.prog 14 #[.slice ai n ci] w fun e w' => ∃ v ns, e = .returned v ∧ w'.ownsRow w.heap.size 9 1 v ns.length (ns.map strV) ∧ Below w.heap.size w w' ∧ Names ns ∧ ns.length ≤ 1024 := by
  obtain ⟨i0, hi, hz0, hz1, hz2⟩ := info_parts Ybaf.info9'
  have HNE : Hid (0 < n → ai = some ⟨bi, oi, none⟩) := hne
  have HC : Hid (∀ j, j < n → w.cell? ⟨bi, oi + j, none⟩ = some (.string (Sx j))) := hc
  clear hne hc
  go_enter Ybaf.func14, Ybaf.ntmps14
  go_wp2_with fail
  go_loopg [3, 8] (n + 1) (fun gk v vi wr => ∃ (i : Nat) (acc : List (List UInt8)), gk = n + 1 - i ∧ vi = .int .i64 (i : Nat) ∧ i ≤ n ∧ acc.length ≤ i ∧ (∀ x ∈ acc, 1 ≤ x.length ∧ x.length ≤ 255) ∧ wr.ownsRow w.heap.size 9 1 v acc.length (acc.map strV) ∧ Below w.heap.size w wr)
  case atStart => exact ⟨0, [], rfl, rfl, Nat.zero_le _, Nat.le_refl _, fun x hx => (by cases hx), World.ownsRow_nil _ _ _ _, Below.refl _ _⟩
  case round =>
    obtain ⟨i, acc, rfl, rfl, hin, hal, hacc, hown, hb⟩ := hrel
    have HACC : Hid (∀ x ∈ acc, 1 ≤ x.length ∧ x.length ≤ 255) := hacc
    clear hacc
    by_cases hlt : i < n
    · obtain rfl := HNE.out (by omega)
      have hci : wr.cell? ⟨bi, oi + i, none⟩ = some (.string (Sx i)) := by
        have := HC.out i hlt
        rw [hb.cell (World.block_lt_of_cell? _ _ this)]; exact this
      have hli : (i : Int) < (n : Int) := by omega
      obtain ⟨x, hx⟩ : ∃ x : List UInt8, Sx i = ⟨x.toArray⟩ := ⟨(Sx i).data.toList, by simp⟩
      rw [hx] at hci
      clear hx
      by_cases hok : 1 ≤ x.length ∧ x.length ≤ 255
      · have h1 : (1 : Int) ≤ (x.length : Int) := by omega
        have h2 : (x.length : Int) ≤ 255 := by omega
        go_wp2_with (at_builtin; refine wpList_append_own _ rfl _ _ 33 rfl w.heap.size 9 i0 _ 1 16 Ybaf.underlying33 hi hz0 hz1 hz2 rfl (by decide) _ _ _ rfl (hown.alloc _) ⟨wr.heap.size, 0, none⟩ 1 1 [strV x] rfl rfl ?c1 ?c2 ?c3 ?c4 ?c5 ?_)
        case c2 => rfl
        case c3 => unfold maxLen; omega
        case c4 => omega
        case c5 => have := hb.size; simp; omega
        intro v' w1 hown' hgrow _
        have hb1 : Below w.heap.size w w1 := (hb.alloc hb.size _).grown hgrow (by have := hb.size; simp; omega) (fun k hk => (hown.lt k hk).1)
        go_wp2
        go_roundg (n + 1 - (i + 1))
        case measure => omega
        case rel =>
          refine ⟨i + 1, acc ++ [x], rfl, by go_num, by omega, by simp; omega, ?_, ?_, hb1⟩
          · intro y hy
            rcases List.mem_append.1 hy with hy | hy
            · exact HACC.out y hy
            · rw [List.mem_singleton.1 hy]; exact hok
          · rw [List.map_append, List.length_append]; exact hown'
      · by_cases h0 : x.length = 0
        · obtain rfl : x = [] := List.eq_nil_of_length_eq_zero h0
          clear hok h0
          go_wp2
          go_roundg (n + 1 - (i + 1))
          case measure => omega
          case rel => exact ⟨i + 1, acc, rfl, by go_num, by omega, by omega, HACC.out, hown, hb⟩
        · have h1 : (1 : Int) ≤ (x.length : Int) := by omega
          have h2 : ¬ (x.length : Int) ≤ 255 := by omega
          go_wp2
          go_roundg (n + 1 - (i + 1))
          case measure => omega
          case rel => exact ⟨i + 1, acc, rfl, by go_num, by omega, by omega, HACC.out, hown, hb⟩
    · obtain rfl : i = n := by omega
      rcases hown.2 with ⟨rfl, h0⟩ | ⟨g, cap, cur, rfl, hbase, hbg, hle1, hle2, hle3, htk⟩
      · have hnil : acc = [] := List.eq_nil_of_length_eq_zero h0
        go_wp2_with fail
        refine (Ybaf.slices_Sort_string_none none 0 wr).mono ?_
        rintro e w1 ⟨rfl, rfl⟩
        go_wp2_with fail
        refine (Ybaf.slices_Compact_string_empty none 0 _).mono ?_
        rintro e w2 ⟨rfl, rfl⟩
        go_wp2
        go_ret
        exact ⟨_, [], rfl, World.ownsRow_nil _ _ _ _, hb, ⟨List.Pairwise.nil, fun x hx => by cases hx⟩, by simp⟩
      · have hgl : g < wr.heap.size := (Array.getElem?_eq_some_iff.1 hbg).1
        have htk' : cur.toList.take acc.length = acc.map encStr := by simpa using htk
        have hH := holds_of_block (e := 9) hbg htk'
        go_wp2_with fail
        refine (Ybaf.slices_Sort_string g 0 cap acc wr hH hgl (by omega)).mono ?_
        rintro e w1 ⟨rfl, q1, os1, hw1⟩
        obtain ⟨ts, hts⟩ : ∃ ts, ts = acc.mergeSort fun x y => decide (x ≤ y) := ⟨_, rfl⟩
        rw [← hts] at hw1
        have htl : ts.length = acc.length := by rw [hts]; simp
        have hown1 : w1.ownsRow w.heap.size 9 1 (.slice (some ⟨g, 0, none⟩) acc.length cap) acc.length (ts.map encStr) := by
          rw [hw1]; exact ownsRow_sorted htl hbase hbg hle1 hle2 hle3
        have hg1 : wr.grownBy w1 (some g) := by rw [hw1]; exact grownBy_sorted _
        have hb1 : Below w.heap.size w w1 := hb.grown hg1 hb.size (fun k hk => by cases hk; exact hbase)
        obtain ⟨cur1, hbg1, hcs1⟩ : ∃ cur1, w1.heap[g]? = some (.cells cur1 9 (0, 0)) ∧ cur1.size = cap * 1 ∧ cur1.toList.take acc.length = ts.map encStr := by
          rcases hown1.2 with ⟨h0, _⟩ | ⟨g', cap', cur', hv, _, hh, _, _, h4, h5⟩
          · cases h0
          · cases hv; exact ⟨cur', hh, h4, by simpa using h5⟩
        have hH1 := holds_of_block (ss := ts) (e := 9) hbg1 (by rw [htl]; exact hcs1.2)
        have hcomp := Ybaf.slices_Compact_string g 0 cap ts w1 hH1 (by omega) (by omega)
        have hvv : Value.slice (some ⟨g, 0, none⟩) ts.length cap = .slice (some ⟨g, 0, none⟩) acc.length cap := by rw [htl]
        rw [hvv] at hcomp
        have HCOMP := Hid.into hcomp
        have HTL : Hid (ts.length = acc.length) := htl
        clear hw1 hH hcomp hvv htl hH1
        go_wp2_with fail
        refine HCOMP.out.mono ?_
        rintro e w2 ⟨rfl, q2, hw2⟩
        have htl := HTL.out
        have hcl := Lib.compact_length_le ts
        have hrl : (Lib.compact ts ++ List.replicate (ts.length - (Lib.compact ts).length) []).length = ts.length := by simp; omega
        have hown2 : w2.ownsRow w.heap.size 9 1 (.slice (some ⟨g, 0, none⟩) ts.length cap) ts.length ((Lib.compact ts ++ List.replicate (ts.length - (Lib.compact ts).length) []).map encStr) := by
          have := ownsRow_sorted (n := q2) (os := #[]) hrl hbase hbg1 (by omega) hle2 hcs1.1
          rw [Go.Sort.grow_empty] at this
          rw [hw2]; exact this
        have hg2 : w1.grownBy w2 (some g) := by
          have := grownBy_sorted (w := w1) (g := g) (n := q2) (os := #[]) (Lib.compact ts ++ List.replicate (ts.length - (Lib.compact ts).length) []).toArray
          rw [Go.Sort.grow_empty] at this
          rw [hw2]; exact this
        have hb2 : Below w.heap.size w w2 := hb1.grown hg2 hb1.size (fun k hk => by cases hk; exact hbase)
        rw [List.map_append] at hown2
        have hown3 := own_cut hown2 (m := (Lib.compact ts).length) (by simp)
        obtain ⟨l1, l2⟩ := names_law acc
        rw [← hts] at l1 l2
        have hcl2 : (Lib.compact ts).length ≤ 1024 := by omega
        clear hw2 hown2 hown1 htl hts
        go_wp2
        go_ret
        exact ⟨_, Lib.compact ts, rfl, hown3, hb2, ⟨l1, fun x hx => HACC.out x (l2 x hx)⟩, hcl2⟩

abbrev cntV (c : Nat) : Value := .int .u64 (c : Int)

theorem take_set_snoc {xs : List Value} {i : Nat} (h : i < xs.length) (u : Value) : (xs.set i u).take (i + 1) = xs.take i ++ [u] := by
  rw [List.take_succ_eq_append_getElem (by simpa using h), List.take_set, List.set_eq_of_length_le (by rw [List.length_take]; omega)]
  simp

set_option maxHeartbeats 1000000 in
set_option maxRecDepth 100000 in
theorem counters_walk (n : Nat) (ai : Option Addr) (bi oi m ci : Nat) (Cx : Nat → Nat) (w : World) (hne : 0 < m → ai = some ⟨bi, oi, none⟩) (hc : ∀ j, j < m → w.cell? ⟨bi, oi + j, none⟩ = some (cntV (Cx j))) (hC : ∀ j, j < m → Cx j < 18446744073709551616) (hn : n ≤ 1025) (hm : m ≤ 1024) :
    Calls Ybaf.prog 15 #[.int .i64 n, .slice ai m ci] w fun e w' => ∃ ks : List Nat, e = .returned (.slice (some ⟨w.heap.size, 0, none⟩) n n) ∧ ks.length = n ∧ w'.ownsRow w.heap.size 22 1 (.slice (some ⟨w.heap.size, 0, none⟩) n n) n (ks.map cntV) ∧ Below w.heap.size w w' ∧ ∀ c ∈ ks, c ≠ 0 ∧ c < 18446744073709551616 := by
  obtain ⟨i0, hi, hz0, hz1, hz2⟩ := info_parts Ybaf.info22'
  have HNE : Hid (0 < m → ai = some ⟨bi, oi, none⟩) := hne
  have HC : Hid (∀ j, j < m → w.cell? ⟨bi, oi + j, none⟩ = some (cntV (Cx j))) := hc
  have HCC : Hid (∀ j, j < m → Cx j < 18446744073709551616) := hC
  clear hne hc hC
  go_enter Ybaf.func15, Ybaf.ntmps15
  go_upto_region 2 with (at_make; refine wpList_make_full _ rfl _ _ 34 rfl w.heap.size 22 i0 _ 1 Ybaf.underlying34 hi hz0 hz1 .i64 .i64 _ _ n rfl rfl rfl rfl (by rw [hz2]; omega) (by unfold maxLen; omega) (Nat.le_refl _) ?_; intro w1 hown1 hgrow1)
  have hb1 : Below w.heap.size w w1 := (Below.refl _ _).grown hgrow1 (Nat.le_refl _) (fun k hk => by cases hk)
  obtain ⟨x1, hx1⟩ : ∃ x1, x1 = (madeCells (Value.int .u64 0).cells (n * 1)).toList := ⟨_, rfl⟩
  rw [← hx1] at hown1
  clear hx1 hgrow1
  go_wp2_with fail
  go_loopg [6] (n + 1) (fun gk vi wr => ∃ (i : Nat) (ks : List Nat) (xs : List Value), gk = n + 1 - i ∧ vi = .int .i64 (i : Nat) ∧ i ≤ n ∧ ks.length = i ∧ xs.take i = ks.map cntV ∧ (∀ c ∈ ks, c ≠ 0 ∧ c < 18446744073709551616) ∧ wr.ownsRow w.heap.size 22 1 (.slice (some ⟨w.heap.size, 0, none⟩) n n) n xs ∧ Below w.heap.size w wr)
  case atStart => exact ⟨0, [], x1, rfl, rfl, Nat.zero_le _, rfl, by simp, fun c hc => (by cases hc), hown1, hb1⟩
  case round =>
    obtain ⟨i, ks, xs, rfl, rfl, hin, hkl, htk, hks, hown, hb⟩ := hrel
    have hxl : xs.length = n := by simpa using hown.1
    have HKS : Hid (∀ c ∈ ks, c ≠ 0 ∧ c < 18446744073709551616) := hks
    have HTK : Hid (xs.take i = ks.map cntV) := htk
    have HKL : Hid (ks.length = i) := hkl
    have HXL : Hid (xs.length = n) := hxl
    clear hown1 hb1 hks htk hkl hxl
    by_cases hlt : i < n
    · have hli : (i : Int) < (n : Int) := by omega
      obtain ⟨u0, hu0⟩ : ∃ u0, wr.cell? ⟨w.heap.size, i, none⟩ = some u0 := ⟨xs[i]'(by rw [HXL.out]; exact hlt), by
        rw [hown.cellAt i (by omega)]; exact List.getElem?_eq_getElem _⟩
      have hfz := hown.frozenAt i
      have hnext : ∀ c : Nat, c ≠ 0 ∧ c < 18446744073709551616 → ∃ (i' : Nat) (ks' : List Nat) (xs' : List Value), n + 1 - (i + 1) = n + 1 - i' ∧ Value.int .i64 ((i : Int) + 1) = .int .i64 (i' : Nat) ∧ i' ≤ n ∧ ks'.length = i' ∧ xs'.take i' = ks'.map cntV ∧ (∀ c ∈ ks', c ≠ 0 ∧ c < 18446744073709551616) ∧ (wr.setCell ⟨w.heap.size, i, none⟩ (.int .u64 (c : Int))).ownsRow w.heap.size 22 1 (.slice (some ⟨w.heap.size, 0, none⟩) n n) n xs' ∧ Below w.heap.size w (wr.setCell ⟨w.heap.size, i, none⟩ (.int .u64 (c : Int))) := by
        intro c hc
        refine ⟨i + 1, ks ++ [c], xs.set i (cntV c), rfl, by simp, by omega, by rw [List.length_append, HKL.out]; rfl, ?_, ?_, (hown.stored i (cntV c)).1, ?_⟩
        · rw [take_set_snoc (by rw [HXL.out]; exact hlt), HTK.out]; simp
        · intro d hd
          rcases List.mem_append.1 hd with hd | hd
          · exact HKS.out d hd
          · rw [List.mem_singleton.1 hd]; exact hc
        · exact hb.grown (hown.stored i (cntV c)).2 hb.size (fun k hk => by cases hk; exact Nat.le_refl _)
      have HNX := Hid.into hnext
      clear hnext
      have hw1 : IntKind.i64.wrap ((i : Int) + 1) = (i : Int) + 1 := by rw [IntKind.wrap_i64]; omega
      have hw2 : IntKind.u64.wrap ((i : Int) + 1) = (i : Int) + 1 := by rw [IntKind.wrap_u64]; omega
      by_cases hm' : i < m
      · obtain rfl := HNE.out (by omega)
        have hmi : (i : Int) < (m : Int) := by omega
        have hci : wr.cell? ⟨bi, oi + i, none⟩ = some (cntV (Cx i)) := by
          have := HC.out i hm'
          rw [hb.cell (World.block_lt_of_cell? _ _ this)]; exact this
        have hc64 := HCC.out i hm'
        obtain ⟨c, hc⟩ : ∃ c, c = Cx i := ⟨_, rfl⟩
        rw [← hc] at hci hc64
        clear hc
        by_cases hc0 : c = 0
        · subst hc0
          go_wp2
          go_roundg (n + 1 - (i + 1))
          case measure => omega
          case rel => exact HNX.out (i + 1) ⟨by omega, by omega⟩
        · have hcb : ((c : Int) == 0) = false := by simp; omega
          go_wp2
          go_roundg (n + 1 - (i + 1))
          case measure => omega
          case rel => exact HNX.out c ⟨hc0, hc64⟩
      · have hmi : ¬ (i : Int) < (m : Int) := by omega
        go_wp2
        go_roundg (n + 1 - (i + 1))
        case measure => omega
        case rel => exact HNX.out (i + 1) ⟨by omega, by omega⟩
    · obtain rfl : i = n := by omega
      have hxs : xs = ks.map cntV := by rw [← HTK.out, List.take_of_length_le (by rw [HXL.out]; exact Nat.le_refl _)]
      rw [hxs] at hown
      clear hxs
      go_wp2
      go_ret
      exact ⟨ks, rfl, HKL.out, hown, hb, HKS.out⟩

end Go.Proofs.YbulkbguFmt
