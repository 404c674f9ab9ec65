/-
  DERIVED. THE WALK: LawS0111CRoundTrip (5).
-/
import Derived.Test.YbulkbguFmtZip
import Derived.WalkSpells
namespace Go.Proofs.YbulkbguFmt
open Go.RowKit Go.Extern.Stop Go.Stop Go.Extern

set_option maxHeartbeats 400000 in
theorem rt_big (a0 a1 a2 : Option Addr) (n0 n1 n2 c0 c1 c2 : Nat) (w : World) (hn : 1024 < n0 ∨ 1024 < n1 ∨ 1024 < n2) (hm0 : n0 ≤ 9223372036854775807) (hm1 : n1 ≤ 9223372036854775807) (hm2 : n2 ≤ 9223372036854775807) :
    Calls Ybaf.prog 5 #[.slice a0 n0 c0, .slice a1 n1 c1, .slice a2 n2 c2] w fun e w' => e = .returned (.bool true) ∧ Below w.heap.size w w' := by
  by_cases h : 1024 < n0
  · have hd : decide ((1024 : Int) < (n0 : Int)) = true := by simp; omega
    go_enter Ybaf.func5, Ybaf.ntmps5
    go_wp2
    go_ret
    exact ⟨rfl, Below.refl _ _⟩
  · have hd : decide ((1024 : Int) < (n0 : Int)) = false := by simp; omega
    by_cases h1 : 1024 < n1
    · have hd1 : decide ((1024 : Int) < (n1 : Int)) = true := by simp; omega
      go_enter Ybaf.func5, Ybaf.ntmps5
      go_wp2
      go_ret
      exact ⟨rfl, Below.refl _ _⟩
    · have hd1 : decide ((1024 : Int) < (n1 : Int)) = false := by simp; omega
      have hd2 : decide ((1024 : Int) < (n2 : Int)) = true := by simp; omega
      go_enter Ybaf.func5, Ybaf.ntmps5
      go_wp2
      go_ret
      exact ⟨rfl, Below.refl _ _⟩

/-- A slice of strings that came in. -/
structure InStrs (w : World) (ai : Option Addr) (n bi oi : Nat) (Sx : Nat → ByteArray) : Prop where
  at' : 0 < n → ai = some ⟨bi, oi, none⟩
  cells : ∀ j, j < n → w.cell? ⟨bi, oi + j, none⟩ = some (.string (Sx j))
/-- A slice of uint64 that came in. -/
structure InCnts (w : World) (ai : Option Addr) (n bi oi : Nat) (Cx : Nat → Nat) : Prop where
  at' : 0 < n → ai = some ⟨bi, oi, none⟩
  cells : ∀ j, j < n → w.cell? ⟨bi, oi + j, none⟩ = some (cntV (Cx j))
  lt : ∀ j, j < n → Cx j < 18446744073709551616

theorem InCnts.below {w w' : World} {ai : Option Addr} {n bi oi : Nat} {Cx : Nat → Nat} (h : InCnts w ai n bi oi Cx) (hb : Below w.heap.size w w') : InCnts w' ai n bi oi Cx :=
  ⟨h.at', fun j hj => by
    have := h.cells j hj
    rw [hb.cell (World.block_lt_of_cell? _ _ this)]; exact this, h.lt⟩

set_option maxHeartbeats 1000000 in
set_option maxRecDepth 100000 in
theorem rt_main (F : Interp) (a : Addr) (s : ByteArray) (ai ac aj : Option Addr) (n m bi oi ci bc oc cc cj : Nat) (Sx : Nat → ByteArray) (Cx : Nat → Nat) (T : List UInt8) (w : World) (hE : Base F a s w.heap.size w)
    (hS : InStrs w ai n bi oi Sx) (hC : InCnts w ac m bc oc Cx) (hT : SrcBytes w (.slice aj T.length cj) T) (hn : n ≤ 1024) (hm : m ≤ 1024) (hq : T.length ≤ 1024) :
    Calls Ybaf.prog 5 #[.slice ai n ci, .slice ac m cc, .slice aj T.length cj] w fun e w' => e = .returned (.bool true) ∧ Below w.heap.size w w' := by
  obtain ⟨i5, hi5, hz50, hz51, hz52⟩ := info_parts Ybaf.info5
  have hd : decide ((1024 : Int) < (n : Int)) = false := by simp; omega
  have hd1 : decide ((1024 : Int) < (m : Int)) = false := by simp; omega
  have hd2 : decide ((1024 : Int) < (T.length : Int)) = false := by simp; omega
  go_enter Ybaf.func5, Ybaf.ntmps5
  go_wp2_with fail
  refine (nodes_walk ai bi oi n ci Sx w hS.at' hS.cells hn).mono ?_
  rintro e w1 ⟨v1, ns, rfl, hown1, hb1, hnames, hnl⟩
  obtain ⟨N, hN⟩ : ∃ N, N = ns.length := ⟨_, rfl⟩
  rw [← hN] at hown1 hnl
  obtain ⟨an, gN, cn, rfl, hshape, hcells1⟩ := own_shape hown1
  have HS := Hid.into hshape
  have HC1 := Hid.into hcells1
  have HNM := Hid.into hnames
  have HN := Hid.into hN
  clear hshape hcells1 hnames hN hown1
  go_wp2_with fail
  refine (counters_walk N ac bc oc m cc Cx w1 hC.at' (hC.below hb1).cells hC.lt (by omega) hm).mono ?_
  rintro e w2 ⟨ks, rfl, hkl, hown2, hb2, hks⟩
  obtain ⟨es, hes⟩ : ∃ es, es = ns.zip ks := ⟨_, rfl⟩
  obtain ⟨z1, z2, z3, z4⟩ := zip_facts (ns := ns) (ks := ks) (by rw [hkl, HN.out]) HNM.out (fun c hc => (hks c hc).2)
  have hval := zip_valid (ns := ns) (ks := ks) (by rw [hkl, HN.out]) HNM.out hks
  rw [← hes] at z1 z2 z3 z4 hval
  rw [← HN.out] at z1
  have hs12 := hb1.size
  have hlen := enc_le es (fun e he => (z3 e he).2) (by omega)
  have hcN : ∀ i (h : i < es.length), w2.cell? ⟨gN, 0 + i, none⟩ = some (.string ⟨((es[i]).1).toArray⟩) := fun i h => by
    have hlt : gN < w1.heap.size := (HS.out (by omega)).2.2
    rw [Nat.zero_add, hb2.cell (by exact hlt)]
    refine HC1.out i _ ?_
    rw [List.getElem?_map, (z2 i h).1]; rfl
  have hcC : ∀ i (h : i < es.length), w2.cell? ⟨w1.heap.size, 0 + i, none⟩ = some (.int .u64 (((es[i]).2 : Nat) : Int)) := fun i h => by
    rw [Nat.zero_add, hown2.cellAt i (by omega), List.getElem?_map, (z2 i h).2]; rfl
  have hcall := encode_walk an (some ⟨w1.heap.size, 0, none⟩) gN 0 cn w1.heap.size 0 N es N w2 z1 (fun h => ⟨(HS.out h).1, rfl⟩) hcN hcC (fun e he => (z3 e he).2.2) (by omega) (by omega)
  have HCALL := Hid.into hcall
  have HZ1 := Hid.into z1
  have HZ2 := Hid.into z2
  have HVAL := Hid.into hval
  have HO2 := Hid.into hown2
  have HKL := Hid.into hkl
  have hs2 := (hown2.lt _ rfl).2
  clear hcall z1 z2 z3 z4 hval hown2 hkl hks hcN hcC hes
  go_wp2_with fail
  refine HCALL.out.mono ?_
  rintro e w3 ⟨v3, rfl, hown3, hb3⟩
  obtain ⟨E, hEE⟩ : ∃ E, E = enc es := ⟨_, rfl⟩
  have HEE := Hid.into hEE
  have hEpos : 0 < E.length := by rw [hEE]; simp [enc]
  rw [← hEE] at hown3 hlen
  clear hEE
  obtain ⟨g3, c3, rfl⟩ : ∃ g3 c3 : Nat, v3 = .slice (some ⟨g3, 0, none⟩) E.length c3 := by
    rcases hown3.2 with ⟨_, h0⟩ | ⟨g3, c3, _, hv, _⟩
    · exact absurd h0 (by omega)
    · exact ⟨g3, c3, hv⟩
  have hb13 : Below w.heap.size w w3 := hb1.trans ((hb2.mono (by omega)).trans (hb3.mono (by omega)))
  have hs3 := hb3.size
  have hw1 : IntKind.i64.wrap ((E.length : Int) + (T.length : Int)) = (E.length : Int) + (T.length : Int) := by rw [IntKind.wrap_i64]; omega
  go_upto_region 7 with (at_make; refine wpList_make_own _ rfl _ _ 35 rfl w3.heap.size 5 i5 (.int .u8 0) 1 Ybaf.underlying35 hi5 hz50 hz51 .i64 .i64 _ (E.length + T.length) rfl rfl (by first | omega | (simp; omega)) (by rw [hz52]; omega) (by unfold maxLen; omega) (Nat.le_refl _) ?_; intro w4 hown4 hgrow4)
  have hb4 : Below w3.heap.size w3 w4 := (Below.refl _ _).grown hgrow4 (Nat.le_refl _) (fun k hk => by cases hk)
  have hs4 := hb4.size
  have hsE : SrcBytes w4 (.slice (some ⟨g3, 0, none⟩) E.length c3) E := Or.inr ⟨_, c3, rfl, fun j hj => by
    have h3 := hown3.cellAt j (by omega)
    rw [addr_add, Nat.zero_add, hb4.cell (by exact (hown3.lt g3 rfl).2), h3]
    simp [Lib.byteCells, hj]⟩
  go_upto_region 8 with (at_builtin; refine wpList_append_bytes rfl (.tmp 43) (.tmp 44) rfl w3.heap.size _ 0 [] rfl hown4 E _ rfl hsE (by omega) hs4 (by omega) ?_; intro g5 c5 w5 hown5 hgrow5)
  have hb5 : Below w3.heap.size w3 w5 := hb4.grown hgrow5 hs4 (fun k hk => (hown4.lt k hk).1)
  have hs5 := hb5.size
  rw [Nat.zero_add, List.nil_append] at hown5
  have hsT : SrcBytes w5 (.slice aj T.length cj) T := hT.below (hb13.trans (hb5.mono (by omega)))
  obtain ⟨D, hD⟩ : ∃ D, D = E ++ T := ⟨_, rfl⟩
  have hDl : E.length + T.length = D.length := by rw [hD]; simp
  have HD := Hid.into hD
  clear hD
  clear hown4 hgrow4 hsE
  go_upto_region 9 with (at_builtin; refine wpList_append_bytes rfl (.tmp 46) (.tmp 47) rfl w3.heap.size _ E.length _ rfl hown5 T _ rfl hsT (by omega) hs5 (by omega) ?_; intro g6 c6 w6 hown6 hgrow6)
  have hb6 : Below w3.heap.size w3 w6 := hb5.grown hgrow6 hs5 (fun k hk => (hown5.lt k hk).1)
  have hs6 := hb6.size
  rw [← Lib.byteCells_append, ← HD.out, hDl] at hown6
  have hb16 : Below w.heap.size w w6 := hb13.trans (hb6.mono (by omega))
  have hcap6 : D.length ≤ c6 ∧ c6 ≤ 9223372036854775807 := by
    rcases hown6.2 with ⟨h0, _⟩ | ⟨g', c', cur, hv, _, _, h1, h2, _⟩
    · cases h0
    · cases hv; unfold maxLen at h2; exact ⟨h1, by omega⟩
  have hg6 := (hown6.lt g6 rfl).2
  have hb7 : Below w6.heap.size w6 (w6.alloc (.cells #[.slice (some ⟨g6, 0, none⟩) D.length c6, .int .i64 0] 43)) := (Below.refl _ _).alloc (Nat.le_refl _) _
  have hE7 := (hE.below hb16).below (hb7.mono (by omega))
  have hR7 : Reads w6.heap.size 0 g6 0 c6 D 0 (w6.alloc (.cells #[.slice (some ⟨g6, 0, none⟩) D.length c6, .int .i64 0] 43)) :=
    ⟨(World.cell?_alloc_at (w := w6) _ _ _ _ rfl).trans rfl, (World.cell?_alloc_at (w := w6) _ _ _ _ rfl).trans rfl, World.frozen?_alloc_at (w := w6) _ _ _ _ rfl, fun j hj => by
      rw [hb7.cell (by exact hg6), Nat.zero_add, hown6.cellAt j (by omega)]
      simp [Lib.byteCells, hj], Nat.zero_le _, hcap6.1, hcap6.2⟩
  have hclk := clock_any F a s w.heap.size w6.heap.size 0 g6 0 c6 D 0 _ hE7 (by omega) hR7 (by omega) (by omega)
  have hdec : dec (D.drop 0) = some (es, E.length) := by
    rw [List.drop_zero, HD.out, HEE.out]; exact dec_enc es T HVAL.out (by rw [HZ1.out]; omega)
  have HCLK := Hid.into hclk
  have HDEC := Hid.into hdec
  clear hclk hdec hR7 hE7 hown6 hgrow6 hown5 hgrow5 hsT hown3
  go_wp2_with fail
  refine HCLK.out.mono ?_
  rintro e w8 (⟨hnone, _⟩ | ⟨es', k', v8, hsome, rfl, hk8, hR8, hown8, hnil8⟩)
  · rw [HDEC.out] at hnone; cases hnone
  rw [HDEC.out] at hsome
  obtain ⟨rfl, rfl⟩ : es = es' ∧ E.length = k' := by simpa using hsome
  clear hsome
  have hpos8 := hR8.pos
  have hb18 : Below w.heap.size w w8 := (hb16.trans (hb7.mono (by omega))).trans (hk8.below (by omega) (by rw [World.size_alloc]; omega))
  have hs8 := hk8.size
  rw [World.size_alloc] at hs8
  rw [HZ1.out] at hown8
  rw [Nat.zero_add, Nat.zero_add] at hpos8
  obtain ⟨ae, ge, ce, rfl, hshe, hce⟩ : ∃ (ae : Option Addr) (ge ce : Nat), v8 = .slice ae N ce ∧ (0 < N → ae = some ⟨ge, 0, none⟩ ∧ w6.heap.size < ge ∧ ge < w8.heap.size) ∧ ∀ j u, (ecells es)[j]? = some u → w8.cell? ⟨ge, j, none⟩ = some u := by
    have hlt := hown8.lt
    rcases hown8.2 with ⟨rfl, h0⟩ | ⟨ge, ce, cur, rfl, hbg, hg, _⟩
    · refine ⟨none, 0, 0, by rw [h0], fun h => absurd h (by omega), fun j u hj => ?_⟩
      have : es = [] := List.eq_nil_of_length_eq_zero (by rw [HZ1.out]; exact h0)
      rw [this] at hj; simp [ecells] at hj
    · refine ⟨_, ge, ce, rfl, fun _ => ⟨rfl, ?_, (hlt ge rfl).2⟩, fun j u hj => ?_⟩
      · have := hbg; rw [World.size_alloc] at this; omega
      · have := hown8.cells (g := ge) rfl j u hj
        rw [addr_add, Nat.zero_add] at this
        exact this
  have HSHE := Hid.into hshe
  have HCE := Hid.into hce
  clear hshe hce hown8 hR8
  have hb9 : Below w8.heap.size w8 (w8.alloc (.cells #[.slice ae N ce] 46)) := (Below.refl _ _).alloc (Nat.le_refl _) _
  have hpos9 : (w8.alloc (.cells #[.slice ae N ce] 46)).cell? ⟨w6.heap.size, 1, none⟩ = some (.int .i64 (E.length : Int)) := by
    rw [hb9.cell (by show w6.heap.size < _; omega)]; exact hpos8
  clear hpos8
  by_cases hN0 : N = 0
  · have hes0 : es = [] := List.eq_nil_of_length_eq_zero (by rw [HZ1.out]; exact hN0)
    obtain ⟨h1, h2⟩ : ae = none ∧ ce = 0 := by
      have := hnil8 hes0
      simpa [hN0] using this
    subst h1 h2 hN0
    clear hnil8 hes0
    have hcmp := run_eql_nil_slice (P := Ybaf.prog) (w8.alloc (.cells #[.slice none 0 0] 46)) 44 50 none 0 0 0 0 Ybaf.underlying44
    go_wp2
    go_ret
    exact ⟨rfl, hb18.trans (hb9.mono (by omega))⟩
  · clear hnil8
    have hN1 : ((N : Int) == 0) = false := by simp; omega
    obtain ⟨rfl, hge1, hge2⟩ := HSHE.out (by omega)
    obtain ⟨rfl, hgN1, hgN2⟩ := HS.out (by omega)
    go_wp2_with fail
    obtain ⟨w9, hw9⟩ : ∃ w9, w9 = w8.alloc (.cells #[.slice (some ⟨ge, 0, none⟩) N ce] 46) := ⟨_, rfl⟩
    rw [← hw9] at hb9 ⊢
    have hh9 : w9.cell? ⟨w8.heap.size, 0, none⟩ = some (.slice (some ⟨ge, 0, none⟩) N ce) := by
      rw [hw9]; exact (World.cell?_alloc_at (w := w8) _ _ _ _ rfl).trans rfl
    have hb19 := hb18.trans (hb9.mono (by omega))
    have hb29 : Below w2.heap.size w2 w9 := hb3.trans ((hb6.mono (by omega)).trans ((hb7.mono (by omega)).trans ((hk8.below (B := w2.heap.size) (by omega) (by rw [World.size_alloc]; omega)).trans (hb9.mono (by omega)))))
    have hfacts : ∀ i (h : i < es.length), w9.cell? ⟨ge, i * 2, none⟩ = some (.string ⟨((es[i]).1).toArray⟩) ∧ w9.cell? ⟨ge, i * 2 + 1, none⟩ = some (.int .u64 (((es[i]).2 : Nat) : Int)) ∧ w9.cell? ⟨gN, i, none⟩ = some (.string ⟨((es[i]).1).toArray⟩) ∧ w9.cell? ⟨w1.heap.size, i, none⟩ = some (.int .u64 (((es[i]).2 : Nat) : Int)) := by
      intro i h
      have hd : es = es.take i ++ (es[i] :: es.drop (i + 1)) := by simp
      have hl : (es.take i).length = i := by rw [List.length_take]; omega
      have hce : ecells es = ecells (es.take i) ++ (.string ⟨((es[i]).1).toArray⟩ :: .int .u64 (((es[i]).2 : Nat) : Int) :: ecells (es.drop (i + 1))) := by
        conv => lhs; rw [hd, ecells_append]
        rfl
      have hlc : (ecells (es.take i)).length = i * 2 := by rw [ecells_length, hl]
      have hz := HZ2.out i h
      have hiN : i < N := by rw [← HZ1.out]; exact h
      refine ⟨?_, ?_, ?_, ?_⟩
      · rw [hb9.cell (by exact hge2)]; refine HCE.out _ _ ?_
        rw [hce, List.getElem?_append_right (by omega), hlc, Nat.sub_self]; rfl
      · rw [hb9.cell (by exact hge2)]; refine HCE.out _ _ ?_
        rw [hce, List.getElem?_append_right (by omega), hlc, Nat.add_sub_cancel_left]; rfl
      · rw [hb29.cell (by show gN < _; omega), hb2.cell (by exact hgN2)]
        refine HC1.out i _ ?_
        rw [List.getElem?_map, hz.1]; rfl
      · rw [hb29.cell (by show w1.heap.size < _; omega), HO2.out.cellAt i (by omega), List.getElem?_map, hz.2]; rfl
    have HF := Hid.into hfacts
    clear hfacts hw9 hpos9 hb29
    go_loopg [14] (N + 1) (fun gk vi wr => ∃ (i j : Nat), gk = N + 1 - i ∧ vi = .int .i64 (i : Nat) ∧ i ≤ N ∧ wr = w9.drewN j)
    case atStart => exact ⟨0, 0, rfl, rfl, Nat.zero_le _, rfl⟩
    case round =>
      obtain ⟨i, j0, rfl, rfl, hiN, rfl⟩ := hrel
      by_cases hlt : i < N
      · have hlti : (i : Int) < (N : Int) := by omega
        obtain ⟨f1, f2, f3, f4⟩ := HF.out i (by rw [HZ1.out]; exact hlt)
        obtain ⟨x, hx⟩ : ∃ x, x = (es[i]'(by rw [HZ1.out]; exact hlt)).1 := ⟨_, rfl⟩
        obtain ⟨c, hc⟩ : ∃ c, c = (es[i]'(by rw [HZ1.out]; exact hlt)).2 := ⟨_, rfl⟩
        rw [← hx] at f1 f3
        rw [← hc] at f2 f4
        clear hx hc
        have q0 : ∀ j, ((w9.drewN j0).drewN j).cell? ⟨w8.heap.size, 0, none⟩ = some (.slice (some ⟨ge, 0, none⟩) N ce) := fun _ => hh9
        have q1 : ∀ j, ((w9.drewN j0).drewN j).cell? ⟨ge, i * 2, none⟩ = some (.string ⟨x.toArray⟩) := fun _ => f1
        have q2 : ∀ j, ((w9.drewN j0).drewN j).cell? ⟨ge, i * 2 + 1, none⟩ = some (.int .u64 (c : Int)) := fun _ => f2
        have q3 : ∀ j, ((w9.drewN j0).drewN j).cell? ⟨gN, i, none⟩ = some (.string ⟨x.toArray⟩) := fun _ => f3
        have q4 : ∀ j, ((w9.drewN j0).drewN j).cell? ⟨w1.heap.size, i, none⟩ = some (.int .u64 (c : Int)) := fun _ => f4
        clear f1 f2 f3 f4
        obtain ⟨wq, hwq⟩ : ∃ wq, wq = w9.drewN j0 := ⟨_, rfl⟩
        rw [← hwq] at q0 q1 q2 q3 q4 ⊢
        have HWQ := Hid.into hwq
        clear hwq
        go_upto_region 22 with fail
        go_quiet (fail)
        go_wp2
        go_roundg (N + 1 - (i + 1))
        case measure => omega
        case rel =>
          refine ⟨i + 1, j0 + nq, rfl, by go_num, by omega, ?_⟩
          rw [HWQ.out]
          exact World.drewN_drewN _ _ _
      · obtain rfl : i = N := by omega
        go_wp2
        go_ret
        exact ⟨rfl, below_drewN hb19 _⟩

theorem rt_any (F : Interp) (a : Addr) (s : ByteArray) (ai ac aj : Option Addr) (n m bi oi ci bc oc cc cj : Nat) (Sx : Nat → ByteArray) (Cx : Nat → Nat) (T : List UInt8) (w : World) (hE : Base F a s w.heap.size w)
    (hS : InStrs w ai n bi oi Sx) (hC : InCnts w ac m bc oc Cx) (hT : SrcBytes w (.slice aj T.length cj) T) (hn : n ≤ 9223372036854775807) (hm : m ≤ 9223372036854775807) (hq : T.length ≤ 9223372036854775807) :
    Calls Ybaf.prog 5 #[.slice ai n ci, .slice ac m cc, .slice aj T.length cj] w fun e w' => e = .returned (.bool true) ∧ Below w.heap.size w w' := by
  by_cases h : n ≤ 1024 ∧ m ≤ 1024 ∧ T.length ≤ 1024
  · exact rt_main F a s ai ac aj n m bi oi ci bc oc cc cj Sx Cx T w hE hS hC hT h.1 h.2.1 h.2.2
  · exact rt_big ai ac aj n m T.length ci cc cj w (by omega) hn hm hq

end Go.Proofs.YbulkbguFmt
