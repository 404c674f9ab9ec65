/-
  DERIVED. THE WALK: LawS0111CRefuses (7).
-/
import Derived.Test.YbulkbguFmtTrip
namespace Go.Proofs.YbulkbguFmt
open Go.RowKit Go.Extern.Stop Go.Stop Go.Extern

set_option maxHeartbeats 400000 in
theorem rf_big (a0 a1 : Option Addr) (n0 n1 c0 c1 : Nat) (x y : Int) (w : World) (hn : 1024 < n0 ∨ 1024 < n1) (hm0 : n0 ≤ 9223372036854775807) (hm1 : n1 ≤ 9223372036854775807) :
    Calls Ybaf.prog 7 #[.slice a0 n0 c0, .slice a1 n1 c1, .int .u8 x, .int .u8 y] w fun e w' => e = .returned (.bool true) ∧ Below w.heap.size w w' := by
  by_cases h : 1024 < n0
  · have hd : decide ((1024 : Int) < (n0 : Int)) = true := by simp; omega
    go_enter Ybaf.func7, Ybaf.ntmps7
    go_wp2
    go_ret
    exact ⟨rfl, Below.refl _ _⟩
  · have hd : decide ((1024 : Int) < (n0 : Int)) = false := by simp; omega
    have hd1 : decide ((1024 : Int) < (n1 : Int)) = true := by simp; omega
    go_enter Ybaf.func7, Ybaf.ntmps7
    go_wp2
    go_ret
    exact ⟨rfl, Below.refl _ _⟩

theorem names_one : Names [[97]] := ⟨List.pairwise_singleton _ _, fun x hx => by rw [List.mem_singleton.1 hx]; exact ⟨by decide, by decide⟩⟩

/-- Entries in memory that the decoder refuses. -/
structure Bad (W : Nat) (w0 : World) (es : List Ent) (M gN gC : Nat) (w : World) : Prop where
  len : es.length = M
  pos : 0 < M
  le : M ≤ 1025
  names : ∀ i (h : i < es.length), w.cell? ⟨gN, 0 + i, none⟩ = some (.string ⟨((es[i]).1).toArray⟩)
  cnts : ∀ i (h : i < es.length), w.cell? ⟨gC, 0 + i, none⟩ = some (.int .u64 (((es[i]).2 : Nat) : Int))
  fits : ∀ e ∈ es, e.1.length ≤ 255 ∧ e.2 < 18446744073709551616
  bad : dec (enc es) = none
  below : Below W w0 w

theorem bad_of {W : Nat} {w0 w : World} {ns : List (List UInt8)} {ks : List Nat} {M gN gC cn cc bN bC : Nat} (h1 : ns.length = M) (h2 : ks.length = M) (hM : 0 < M) (hM2 : M ≤ 1025)
    (oN : w.ownsRow bN 9 1 (.slice (some ⟨gN, 0, none⟩) M cn) M (ns.map strV)) (oC : w.ownsRow bC 22 1 (.slice (some ⟨gC, 0, none⟩) M cc) M (ks.map cntV))
    (hn : ∀ x ∈ ns, x.length ≤ 255) (hk : ∀ c ∈ ks, c < 18446744073709551616) (hb : dec (enc (ns.zip ks)) = none) (hw : Below W w0 w) : Bad W w0 (ns.zip ks) M gN gC w := by
  have hl : (ns.zip ks).length = M := by simp [h1, h2]
  refine ⟨hl, hM, hM2, fun i h => ?_, fun i h => ?_, fun e he => ?_, hb, hw⟩
  · rw [Nat.zero_add, oN.cellAt i (by omega)]
    simp [List.getElem_zip, List.getElem?_eq_getElem (show i < ns.length by omega)]
  · rw [Nat.zero_add, oC.cellAt i (by omega)]
    simp [List.getElem_zip, List.getElem?_eq_getElem (show i < ks.length by omega)]
  · obtain ⟨x, c⟩ := e
    have := List.of_mem_zip he
    exact ⟨hn x this.1, hk c this.2⟩

theorem bad_twice {ns : List (List UInt8)} {ks : List Nat} (hl : ks.length = ns.length) (hn : Names ns) (hk : ∀ c ∈ ks, c ≠ 0 ∧ c < 18446744073709551616) (h0 : 0 < ns.length) (hle : ns.length ≤ 1024) :
    dec (enc ((ns ++ [ns[ns.length - 1]]).zip (ks ++ [1]))) = none := by
  have hv := zip_valid hl hn hk
  have hz : (ns ++ [ns[ns.length - 1]]).zip (ks ++ [1]) = ns.zip ks ++ (ns[ns.length - 1], 1) :: [] := by
    rw [List.zip_append (by omega)]; rfl
  have hzl : (ns.zip ks).length = ns.length := by simp [hl]
  have hx := hn.2 (ns[ns.length - 1]) (List.getElem_mem _)
  rw [hz]
  refine dec_bad _ _ [] hv ⟨hx.1, hx.2, by show (1 : Nat) < _; omega⟩ ?_ (by simp [hl]; omega)
  intro hc
  have hne : ns.zip ks ≠ [] := fun h => by rw [h] at hzl; simp at hzl; omega
  have he : ns.zip ks = (ns.zip ks).dropLast ++ [(ns.zip ks).getLast hne] := (List.dropLast_concat_getLast hne).symm
  have h1 := hc.1
  rw [he, lastOf_snoc] at h1
  have h2 : ((ns.zip ks).getLast hne).1 = ns[ns.length - 1] := by
    rw [List.getLast_eq_getElem]
    simp [List.getElem_zip, hl]
  rw [h2] at h1
  simp only [above, decide_eq_true_eq] at h1
  exact List.lt_irrefl _ h1

theorem bad_zero {ns : List (List UInt8)} {ks : List Nat} (hl : ks.length = ns.length) (hn : Names ns) (hk : ∀ c ∈ ks, c ≠ 0 ∧ c < 18446744073709551616) (i : Nat) (hi : i < ns.length) (hle : ns.length ≤ 1024) :
    dec (enc (ns.zip (ks.set i 0))) = none := by
  have e1 : ns = ns.take i ++ ns[i] :: ns.drop (i + 1) := by simp
  have e2 : ks.set i 0 = ks.take i ++ 0 :: ks.drop (i + 1) := by rw [List.set_eq_take_append_cons_drop, if_pos (by omega)]
  have ht : (ns.take i).length = (ks.take i).length := by simp [hl]
  have hz : ns.zip (ks.set i 0) = (ns.take i).zip (ks.take i) ++ (ns[i], 0) :: (ns.drop (i + 1)).zip (ks.drop (i + 1)) := by
    rw [e2]
    conv => lhs; rw [e1]
    rw [List.zip_append ht]; rfl
  have hx := hn.2 (ns[i]) (List.getElem_mem _)
  have hv : Valid none ((ns.take i).zip (ks.take i)) := zip_valid ht.symm ⟨hn.1.sublist (List.take_sublist _ _), fun x hx => hn.2 x (List.mem_of_mem_take hx)⟩ (fun c hc => hk c (List.mem_of_mem_take hc))
  rw [hz]
  refine dec_bad _ _ _ hv ⟨hx.1, hx.2, by show (0 : Nat) < _; omega⟩ (fun hc => hc.2 rfl) ?_
  simp [hl]
  omega

set_option maxHeartbeats 1000000 in
set_option maxRecDepth 100000 in
theorem rf_main (F : Interp) (a : Addr) (s : ByteArray) (ai ac : Option Addr) (n m bi oi ci bc oc cc : Nat) (kd at' : Nat) (Sx : Nat → ByteArray) (Cx : Nat → Nat) (w : World) (hE : Base F a s w.heap.size w)
    (hS : InStrs w ai n bi oi Sx) (hC : InCnts w ac m bc oc Cx) (hn : n ≤ 1024) (hm : m ≤ 1024) (hkd : kd < 256) (hat : at' < 256) :
    Calls Ybaf.prog 7 #[.slice ai n ci, .slice ac m cc, .int .u8 kd, .int .u8 at'] w fun e w' => e = .returned (.bool true) ∧ Below w.heap.size w w' := by
  obtain ⟨i5, hi5, hz50, hz51, hz52⟩ := info_parts Ybaf.info5
  obtain ⟨i9, hi9, hz90, hz91, hz92⟩ := info_parts Ybaf.info9
  obtain ⟨i22, hi22, hz220, hz221, hz222⟩ := info_parts Ybaf.info22
  have hd : decide ((1024 : Int) < (n : Int)) = false := by simp; omega
  have hd1 : decide ((1024 : Int) < (m : Int)) = false := by simp; omega
  go_enter Ybaf.func7, Ybaf.ntmps7
  go_wp2_with fail
  refine (nodes_walk ai bi oi n ci Sx w hS.at' hS.cells hn).mono ?_
  rintro e w1 ⟨v1, ns, rfl, hown1, hb1, hnames, hnl⟩
  obtain ⟨N, hN⟩ : ∃ N, N = ns.length := ⟨_, rfl⟩
  rw [← hN] at hown1 hnl
  obtain ⟨an, gN, cn, rfl, hshape, hcells1⟩ := own_shape hown1
  clear hcells1 hshape
  have HNM := Hid.into hnames
  have HN := Hid.into hN
  have HO1 := Hid.into hown1
  have hs1 := hb1.size
  clear hnames hN hown1
  go_upto_if 28 with fail
  go_cut [9] (fun s9 wc => ∃ (M gN' cn' : Nat) (ns' : List (List UInt8)), s9 = .slice (some ⟨gN', 0, none⟩) M cn' ∧ 0 < M ∧ M ≤ 1024 ∧ ns'.length = M ∧ Names ns' ∧ wc.ownsRow w.heap.size 9 1 (.slice (some ⟨gN', 0, none⟩) M cn') M (ns'.map strV) ∧ Below w.heap.size w wc)
  case first =>
    by_cases hN0 : N = 0
    · subst hN0
      go_wp2_with fail
      go_meet
      case rel =>
        refine ⟨1, _, _, [[97]], rfl, by omega, by omega, rfl, names_one, ?_, hb1.alloc hs1 _⟩
        exact ⟨rfl, .inr ⟨w1.heap.size, 1, #[.string ⟨#[97]⟩], rfl, hs1, heap_alloc_new w1 _, by omega, by unfold maxLen; omega, rfl, rfl⟩⟩
    · have hN1 : ((N : Int) == 0) = false := by simp; omega
      obtain ⟨g', c', hv', _⟩ := HO1.out.form (by omega)
      obtain ⟨rfl, rfl⟩ : an = some ⟨g', 0, none⟩ ∧ cn = c' := by simpa using hv'
      clear hv'
      go_wp2_with fail
      go_meet
      case rel => exact ⟨N, _, _, ns, rfl, by omega, hnl, HN.out.symm, HNM.out, HO1.out, hb1⟩
  case rest =>
    obtain ⟨wo, rfl⟩ : ∃ wo : World, wo = wc := ⟨_, rfl⟩
    obtain ⟨M, gM, cM, ms, rfl, hM0, hM1, hml, hmn, hom, hbm⟩ := hcut
    clear hb1 HO1 HN HNM hs1 hnl
    have HML := Hid.into hml
    have HMN := Hid.into hmn
    have HOM := Hid.into hom
    have hsm := hbm.size
    clear hml hmn hom
    go_wp2_with fail
    refine (counters_walk M ac bc oc m cc Cx wo hC.at' (hC.below hbm).cells hC.lt (by omega) hm).mono ?_
    rintro e w2 ⟨ks, rfl, hkl, hown2, hb2, hks⟩
    have hom2 : w2.ownsRow w.heap.size 9 1 (.slice (some ⟨gM, 0, none⟩) M cM) M (ms.map strV) := own_kept (r := 0) HOM.out (Kept.of_below hb2) (World.block_lt_of_cell? _ _ hE.env.glob)
    have hgm := HOM.out.lt gM rfl
    have hbw2 : Below w.heap.size w w2 := hbm.trans (hb2.mono hsm)
    have hs2 := (hown2.lt _ rfl).2
    have HKL := Hid.into hkl
    have HKS := Hid.into hks
    clear hkl hks HOM hb2
    go_upto_if 36 with fail
    go_cut [9, 10] (fun s9 s10 wd => ∃ (es : List Ent) (M' gN' cn' gC' cc' : Nat), s9 = .slice (some ⟨gN', 0, none⟩) M' cn' ∧ s10 = .slice (some ⟨gC', 0, none⟩) M' cc' ∧ Bad w.heap.size w es M' gN' gC' wd)
    case first =>
      by_cases hev : kd % 2 = 0
      · have hevi : (kd : Int) % 2 = 0 := by omega
        obtain ⟨k, rfl⟩ : ∃ k, M = k + 1 := ⟨M - 1, by omega⟩
        have hkl : k < ms.length := by rw [HML.out]; omega
        have hck : w2.cell? ⟨gM, k, none⟩ = some (strV (ms[k])) := by
          rw [hom2.cellAt k (by omega)]; simp [hkl]
        obtain ⟨x, hx⟩ : ∃ x, x = ms[k] := ⟨_, rfl⟩
        rw [← hx] at hck
        have HX := Hid.into hx
        clear hx
        go_upto_region 9 with (at_builtin; refine wpList_append_own _ rfl _ _ 33 rfl w.heap.size 9 i9 _ 1 16 Ybaf.underlying33 hi9 hz90 hz91 hz92 rfl (by decide) _ _ _ rfl (hom2.alloc _) ⟨w2.heap.size, 0, none⟩ 1 1 [strV x] rfl rfl ?c1 ?c2 ?c3 ?c4 ?c5 ?_; rotate_left 5; intro v3 w3 hom3 hgrow3 hnil3)
        case c1 =>
          intro j u hj
          match j, hj with
          | 0, hj => simp at hj; subst hj; simp [Addr.add]
        case c2 => intro u hu; simp at hu; subst hu; rfl
        case c3 => unfold maxLen; omega
        case c4 => omega
        case c5 => have := hbw2.size; simp; omega
        have ho3a := (hown2.alloc (.cells #[strV x] 9)).kept hgrow3 (Or.inr (by show some wo.heap.size ≠ some gM; simp; omega))
        have hb3 : Below w.heap.size w w3 := (hbw2.alloc hbw2.size _).grown hgrow3 (by have := hbw2.size; simp; omega) (fun k hk => by cases hk; exact hgm.1)
        obtain ⟨g5, c5, hv5, hg5⟩ := hom3.form (by omega)
        subst hv5
        have hg5l := (hom3.lt g5 rfl).2
        have hne5 : g5 ≠ wo.heap.size := by
          intro h
          rcases hom3.2 with ⟨h0, _⟩ | ⟨g', c', cur, hv, _, hh, _⟩
          · cases h0
          · cases hv
            rcases ho3a.2 with ⟨h0, _⟩ | ⟨g'', c'', cur', hv', _, hh', _⟩
            · cases h0
            · cases hv'
              rw [h, hh'] at hh
              cases hh
        have hs3 := hb3.size
        have hs3b := (ho3a.lt _ rfl).2
        clear hgrow3 hnil3 hom2 hown2 hck
        go_upto_region 12 with (at_builtin; refine wpList_append_own _ rfl _ _ 34 rfl wo.heap.size 22 i22 _ 1 8 Ybaf.underlying34 hi22 hz220 hz221 hz222 rfl (by decide) _ _ _ rfl (ho3a.alloc _) ⟨w3.heap.size, 0, none⟩ 1 1 [cntV 1] rfl rfl ?c1 ?c2 ?c3 ?c4 ?c5 ?_; rotate_left 5; intro v6 w6 hom6 hgrow6 hnil6)
        case c1 =>
          intro j u hj
          match j, hj with
          | 0, hj => simp at hj; subst hj; simp
        case c2 => first | rfl | (intro u hu; simp at hu; subst hu; rfl)
        case c3 => unfold maxLen; omega
        case c4 => omega
        case c5 => first | omega | (simp; omega)
        have hon6 := (hom3.alloc (.cells #[.int .u64 1] 22)).kept hgrow6 (Or.inr (by show some g5 ≠ some wo.heap.size; simpa using hne5))
        have hb6 : Below w.heap.size w w6 := (hb3.alloc hb3.size _).grown hgrow6 (by simp; omega) (fun k hk => by cases hk; exact hsm)
        obtain ⟨g7, c7, hv7, hg7⟩ := hom6.form (by omega)
        subst hv7
        have hlast : ms[ms.length - 1]'(by omega) = x := by
          rw [HX.out]; congr 1; rw [HML.out]; rfl
        have hbt := bad_twice (ns := ms) (ks := ks) (by rw [HKL.out, HML.out]) HMN.out HKS.out (by rw [HML.out]; omega) (by rw [HML.out]; exact hM1)
        rw [hlast] at hbt
        have hxl : x.length ≤ 255 := by rw [HX.out]; exact (HMN.out.2 _ (List.getElem_mem _)).2
        have hbad : Bad w.heap.size w ((ms ++ [x]).zip (ks ++ [1])) (k + 1 + 1) g5 g7 w6 :=
          bad_of (by rw [List.length_append, HML.out]; rfl) (by rw [List.length_append, HKL.out]; rfl) (by omega) (by omega) (by rw [List.map_append]; exact hon6) (by rw [List.map_append]; exact hom6)
            (fun y hy => by
              rcases List.mem_append.1 hy with hy | hy
              · exact (HMN.out.2 y hy).2
              · rw [List.mem_singleton.1 hy]; exact hxl)
            (fun c hc => by
              rcases List.mem_append.1 hc with hc | hc
              · exact (HKS.out c hc).2
              · rw [List.mem_singleton.1 hc]; omega) hbt hb6
        go_meet
        case rel => exact ⟨_, k + 1 + 1, _, _, _, _, rfl, rfl, hbad⟩
      · have hodd : (kd : Int) % 2 = 1 := by omega
        obtain ⟨ix, hix⟩ : ∃ ix : Nat, ix = at' % M := ⟨_, rfl⟩
        have hixl : ix < M := by rw [hix]; exact Nat.mod_lt _ hM0
        have hixi : (at' : Int) % (M : Int) = (ix : Int) := by rw [hix]; simp
        clear hix
        have hixj : (ix : Int) < (M : Int) := by omega
        have hck : wo.heap.size = wo.heap.size := rfl
        obtain ⟨u0, hu0⟩ : ∃ u0, w2.cell? ⟨wo.heap.size, ix, none⟩ = some u0 := ⟨cntV (ks[ix]'(by rw [HKL.out]; exact hixl)), by
          rw [hown2.cellAt ix (by omega)]; simp [HKL.out, hixl]⟩
        have hfz := hown2.frozenAt ix
        obtain ⟨ho3, hg3⟩ := hown2.stored ix (cntV 0)
        have hon3 := hom2.kept hg3 (Or.inr (by show some gM ≠ some wo.heap.size; simp; omega))
        have hb3 : Below w.heap.size w (w2.setCell ⟨wo.heap.size, ix, none⟩ (cntV 0)) := hbw2.grown hg3 hbw2.size (fun k hk => by cases hk; exact hsm)
        rw [show (ks.map cntV).set ix (cntV 0) = (ks.set ix 0).map cntV by rw [List.map_set]] at ho3
        have hbad : Bad w.heap.size w (ms.zip (ks.set ix 0)) M gM wo.heap.size (w2.setCell ⟨wo.heap.size, ix, none⟩ (cntV 0)) :=
          bad_of HML.out (by simp [HKL.out]) hM0 (by omega) hon3 ho3 (fun x hx => (HMN.out.2 x hx).2) (fun c hc => by
            rcases List.mem_or_eq_of_mem_set hc with hc | rfl
            · exact (HKS.out c hc).2
            · omega) (bad_zero (by rw [HKL.out, HML.out]) HMN.out HKS.out ix (by rw [HML.out]; exact hixl) (by rw [HML.out]; exact hM1)) hb3
        have HB := Hid.into hbad
        clear hbad ho3 hg3 hon3 hb3 hom2 hown2 hck
        go_wp2_with fail
        go_meet
        case rel => exact ⟨_, M, _, _, _, _, rfl, rfl, HB.out⟩
    case rest =>
      obtain ⟨es, M', gN', cn', gC', cc', rfl, rfl, hbad⟩ := hcut
      clear hom2 hown2 hs2 hgm hbw2 HKL HKS HML HMN
      obtain ⟨E, hEE⟩ : ∃ E, E = enc es := ⟨_, rfl⟩
      have hlen := enc_le es hbad.fits (by rw [hbad.len]; exact hbad.le)
      have hcall := encode_walk (some ⟨gN', 0, none⟩) (some ⟨gC', 0, none⟩) gN' 0 cn' gC' 0 cc' es M' wc hbad.len (fun _ => ⟨rfl, rfl⟩) hbad.names hbad.cnts (fun e he => (hbad.fits e he).2) (by omega) (by have := hbad.le; omega)
      have HCALL := Hid.into hcall
      have HBAD := Hid.into hbad
      have HEE := Hid.into hEE
      have hEpos : 0 < E.length := by rw [hEE]; simp [enc]
      rw [← hEE] at hlen
      clear hcall hEE
      have hbd := hbad.below
      clear hbad
      go_wp2_with fail
      refine HCALL.out.mono ?_
      rintro e w4 ⟨v4, rfl, hown4, hb4⟩
      rw [← HEE.out] at hown4
      obtain ⟨g4, c4, rfl⟩ : ∃ g4 c4 : Nat, v4 = .slice (some ⟨g4, 0, none⟩) E.length c4 := by
        rcases hown4.2 with ⟨_, h0⟩ | ⟨g4, c4, _, hv, _⟩
        · exact absurd h0 (by omega)
        · exact ⟨g4, c4, hv⟩
      have hsd := hbd.size
      have hb16 : Below w.heap.size w w4 := hbd.trans (hb4.mono hsd)
      have hs6 := hb16.size
      have hcap6 : E.length ≤ c4 ∧ c4 ≤ 9223372036854775807 := by
        rcases hown4.2 with ⟨h0, _⟩ | ⟨g', c', cur, hv, _, _, h1, h2, _⟩
        · cases h0
        · cases hv; unfold maxLen at h2; exact ⟨h1, by omega⟩
      have hg6 := (hown4.lt g4 rfl).2
      have hb7 : Below w4.heap.size w4 (w4.alloc (.cells #[.slice (some ⟨g4, 0, none⟩) E.length c4, .int .i64 0] 43)) := (Below.refl _ _).alloc (Nat.le_refl _) _
      have hE7 := (hE.below hb16).below (hb7.mono (by omega))
      have hR7 : Reads w4.heap.size 0 g4 0 c4 E 0 (w4.alloc (.cells #[.slice (some ⟨g4, 0, none⟩) E.length c4, .int .i64 0] 43)) :=
        ⟨(World.cell?_alloc_at (w := w4) _ _ _ _ rfl).trans rfl, (World.cell?_alloc_at (w := w4) _ _ _ _ rfl).trans rfl, World.frozen?_alloc_at (w := w4) _ _ _ _ rfl, fun j hj => by
          rw [hb7.cell (by exact hg6), Nat.zero_add, hown4.cellAt j (by omega)]
          simp [Lib.byteCells, hj], Nat.zero_le _, hcap6.1, hcap6.2⟩
      have hclk := clock_any F a s w.heap.size w4.heap.size 0 g4 0 c4 E 0 _ hE7 (by omega) hR7 (by omega) (by omega)
      have HCLK := Hid.into hclk
      clear hclk hR7 hE7 hown4
      go_wp2_with fail
      refine HCLK.out.mono ?_
      rintro e w8 (⟨_, u, b, hu, rfl, hk8⟩ | ⟨es', k', v8, hsome, _⟩)
      · have hb18 : Below w.heap.size w w8 := (hb16.trans (hb7.mono (by omega))).trans (hk8.below (by omega) (by rw [World.size_alloc]; omega))
        go_wp2
        go_ret
        exact ⟨rfl, hb18.alloc hb18.size _⟩
      · rw [List.drop_zero, HEE.out, HBAD.out.bad] at hsome
        cases hsome

theorem rf_any (F : Interp) (a : Addr) (s : ByteArray) (ai ac : Option Addr) (n m bi oi ci bc oc cc : Nat) (kd at' : Nat) (Sx : Nat → ByteArray) (Cx : Nat → Nat) (w : World) (hE : Base F a s w.heap.size w)
    (hS : InStrs w ai n bi oi Sx) (hC : InCnts w ac m bc oc Cx) (hn : n ≤ 9223372036854775807) (hm : m ≤ 9223372036854775807) (hkd : kd < 256) (hat : at' < 256) :
    Calls Ybaf.prog 7 #[.slice ai n ci, .slice ac m cc, .int .u8 kd, .int .u8 at'] w fun e w' => e = .returned (.bool true) ∧ Below w.heap.size w w' := by
  by_cases h : n ≤ 1024 ∧ m ≤ 1024
  · exact rf_main F a s ai ac n m bi oi ci bc oc cc kd at' Sx Cx w hE hS hC h.1 h.2 hkd hat
  · exact rf_big ai ac n m ci cc _ _ w (by omega) hn hm

end Go.Proofs.YbulkbguFmt
