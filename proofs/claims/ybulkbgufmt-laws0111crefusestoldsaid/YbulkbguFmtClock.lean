/-
  DERIVED. THE WALK: (*decoder).clock (17): its loop.
-/
import Derived.Test.YbulkbguFmtClock0
import Derived.Laws.IdiomStrings
import Derived.Deep.AppendLies
import Derived.Deep.DeepCutAuto
import Derived.OwnWalk
namespace Go.Proofs.YbulkbguFmt
open Go.RowKit Go.Extern.Stop Go.Stop Go.Extern

theorem Ybaf.info50 : (Ybaf.prog.info? 50).map (fun i => (i.zero, i.size, i.bytes)) = some (some (.agg #[.string ⟨#[]⟩, .int .u64 0]), 2, 24) := by kernel_rfl

theorem bytesLess_eq : ∀ (x y : List UInt8), Op.bytesLess x y = decide (x < y)
  | [], [] => by simp [Op.bytesLess]
  | _ :: _, [] => by simp [Op.bytesLess]
  | [], _ :: _ => by simp [Op.bytesLess]
  | a :: x, b :: y => by
    rw [Op.bytesLess, bytesLess_eq x y]
    simp only [List.cons_lt_cons_iff]
    by_cases h1 : a < b <;> by_cases h2 : a = b <;> by_cases h3 : x < y <;> simp [h1, h2, h3]

theorem own_kept {r base : Nat} {e : TypeId} {size n : Nat} {v : Value} {xs : List Value} {w w' : World} (h : w.ownsRow base e size v n xs) (hk : Kept r w w') (hr : r < base) : w'.ownsRow base e size v n xs := by
  have hlt := h.lt
  refine ⟨h.1, h.2.imp id ?_⟩
  rintro ⟨g, cap, cur, rfl, hb, hg, rest⟩
  have h1 := hlt g rfl
  exact ⟨g, cap, cur, rfl, hb, by rw [hk.block g h1.2 (by omega)]; exact hg, rest⟩

theorem Reads.blocks {r ro g o cap p : Nat} {l : List UInt8} {w w' : World} (h : Reads r ro g o cap l p w) (hr : w'.heap[r]? = w.heap[r]?) (hg : w'.heap[g]? = w.heap[g]?) : Reads r ro g o cap l p w' :=
  ⟨by rw [World.cell?_of_block (w := w) (by exact hr)]; exact h.data, by rw [World.cell?_of_block (w := w) (by exact hr)]; exact h.pos, by rw [World.frozen?_of_block (w := w) (by exact hr)]; exact h.free,
   fun j hj => by rw [World.cell?_of_block (w := w) (by exact hg)]; exact h.cells j hj, h.le, h.fits, h.big⟩

/-- WHERE THE LOOP STANDS: i entries are read. -/
structure At (r ro g o cap : Nat) (l : List UInt8) (n q0 : Nat) (w1 : World) (base i q : Nat) (es : List Ent) (ve : Value) (wr : World) : Prop where
  le : i ≤ n
  len : es.length = i
  form : ∃ g2 c2 : Nat, ve = .slice (some ⟨g2, 0, none⟩) i c2
  own : wr.ownsRow base 50 2 ve i (ecells es)
  reads : Reads r ro g o cap l q wr
  kept : Kept r w1 wr
  from0 : q0 ≤ q
  eq : decN n none (l.drop q0) = (decN (n - i) (lastOf none es) (l.drop q)).map fun x => (es ++ x.1, (q - q0) + x.2)

theorem lastOf_snoc : ∀ (es : List Ent) (prev : Option (List UInt8)) (e : Ent), lastOf prev (es ++ [e]) = some e.1
  | [], _, _ => rfl
  | a :: es, _, e => by simp only [List.cons_append, lastOf]; exact lastOf_snoc es _ e

theorem at_none {r ro g o cap : Nat} {l : List UInt8} {n q0 base i q : Nat} {w1 : World} {es : List Ent} {ve : Value} {wr : World} (h : At r ro g o cap l n q0 w1 base i q es ve wr) (hi : i < n) (hd : decE (lastOf none es) (l.drop q) = none) : decN n none (l.drop q0) = none := by
  rw [h.eq]
  obtain ⟨m, hm⟩ : ∃ m, n - i = m + 1 := ⟨n - i - 1, by omega⟩
  rw [hm, decN, hd]
  rfl

theorem at_step {n q0 i q k : Nat} {l : List UInt8} {es : List Ent} {e : Ent} (h : decN n none (l.drop q0) = (decN (n - i) (lastOf none es) (l.drop q)).map fun x => (es ++ x.1, (q - q0) + x.2)) (hi : i < n) (hq : q0 ≤ q) (hd : decE (lastOf none es) (l.drop q) = some (e, k)) :
    decN n none (l.drop q0) = (decN (n - (i + 1)) (lastOf none (es ++ [e])) (l.drop (q + k))).map fun x => (es ++ [e] ++ x.1, (q + k - q0) + x.2) := by
  rw [h]
  obtain ⟨m, hm⟩ : ∃ m, n - i = m + 1 := ⟨n - i - 1, by omega⟩
  have hm' : n - (i + 1) = m := by omega
  rw [hm, decN, hd, hm', lastOf_snoc]
  simp only [List.drop_drop]
  cases decN m (some e.1) (l.drop (q + k)) with
  | none => rfl
  | some x =>
    obtain ⟨xs, k'⟩ := x
    simp
    omega

theorem above_not (x y : List UInt8) : (decide (x < y) || x == y) = !decide (y < x) := by
  by_cases h : y < x
  · have h1 : ¬ x < y := List.lt_asymm h
    have h2 : x ≠ y := by rintro rfl; exact List.lt_irrefl _ h
    simp [h, h1, h2]
  · have h1 := List.not_lt.1 h
    by_cases h3 : x < y
    · simp [h, h3]
    · have := List.le_antisymm h1 (List.not_lt.1 h3)
      simp [this, List.lt_irrefl]

theorem addr_add (b o t : Nat) : (⟨b, o, none⟩ : Addr).add t = ⟨b, o + t, none⟩ := by
  unfold Addr.add; split <;> simp_all

set_option maxHeartbeats 1000000 in
set_option maxRecDepth 100000 in
theorem clock_loop (F : Interp) (a : Addr) (s : ByteArray) (B r ro g o cap : Nat) (l : List UInt8) (p n k0 : Nat) (w : World) (hE : Base F a s B w) (hB : B ≤ r) (hR : Reads r ro g o cap l p w) (hg : g ≠ r) (hlen : l.length ≤ 1073741824)
    (hp : p < l.length) (h1 : (l[p]'hp).toNat = 1) (h : rd (l.drop (p + 1)) = some (n, k0)) (hn : n ≤ (l.length - (p + 1 + k0)) / 3) (hn0 : 0 < n) :
    Calls Ybaf.prog 17 #[.pointer (some ⟨r, ro, none⟩)] w fun e w' =>
      (decN n none (l.drop (p + 1 + k0)) = none ∧ ErrK r tupC w e w') ∨
      ∃ (es : List Ent) (k : Nat) (v : Value), decN n none (l.drop (p + 1 + k0)) = some (es, k) ∧ e = .returned (.tuple #[.agg #[v], .nilIface]) ∧ Kept r w w' ∧ Reads r ro g o cap l (p + 1 + k0 + k) w' ∧
        w'.ownsRow w.heap.size 50 2 v es.length (ecells es) := by
  have hr : r < w.heap.size := World.block_lt_of_cell? _ _ hR.data
  have hgl : g < w.heap.size := World.block_lt_of_cell? _ _ (hR.cells p hp)
  have hb0 : Below w.heap.size w (w.alloc (.cells #[.slice none 0 0] 46)) := (Below.refl _ _).alloc (Nat.le_refl _) _
  have hE1 := hE.below (hb0.mono hE.le)
  have hR1 := hR.below hb0
  have hkl := (rd_some h).2.2.2.2.1
  rw [List.length_drop] at hkl
  obtain ⟨i0, hi0, hz0, hz1, hz2⟩ := info_parts Ybaf.info50
  have hnb : n ≤ 357913942 := by omega
  go_enter Ybaf.func17, Ybaf.ntmps17
  go_wp2_with fail
  refine (tagM_ok r ro g o cap l p 1 _ hR1 hp h1).mono ?_
  rintro e w2 ⟨rfl, hm⟩
  have hE2 := hE1.below (hm.below hB)
  have hR2 := hR1.moved hm hg (by omega)
  go_wp2_with fail
  refine (count_ok r ro g o cap l (p + 1) n k0 _ hR2 h hn).mono ?_
  rintro e w3 ⟨rfl, hm3⟩
  have hR3 := hR2.moved hm3 hg (by omega)
  have hk3 := hm.kept.trans hm3.kept
  have hs3 : w3.heap.size = w.heap.size + 1 := by rw [hm3.size, hm.size]; simp
  go_wp2_with (at_make; refine wpList_make_own _ rfl _ _ 44 rfl (w.heap.size + 1) 50 i0 _ 2 Ybaf.underlying44 hi0 hz0 hz1 .i64 .i64 _ n rfl rfl rfl (by rw [hz2]; omega) (by unfold maxLen; omega) (by rw [hs3]; exact Nat.le_refl _) ?_; intro w4 hown4 hgrow4)
  go_loopg [7, 37] (n + 1) (fun gk ve vi wr => ∃ i q es, gk = n + 1 - i ∧ vi = .int .i64 (i : Nat) ∧ At r ro g o cap l n (p + 1 + k0) (w.alloc (.cells #[.slice none 0 0] 46)) (w.heap.size + 1) i q es ve wr)
  case atStart =>
    have hb4 : Below w3.heap.size w3 w4 := (Below.refl _ _).grown hgrow4 (Nat.le_refl _) (fun k hk => by cases hk)
    rw [hs3] at hown4
    refine ⟨0, p + 1 + k0, [], rfl, rfl, Nat.zero_le _, rfl, ⟨_, _, rfl⟩, hown4, hR3.below hb4, hk3.trans (Kept.of_below hb4), Nat.le_refl _, ?_⟩
    rw [show lastOf none [] = none from rfl, Nat.sub_zero]
    cases decN n none (l.drop (p + 1 + k0)) with
    | none => rfl
    | some x => simp
  case round =>
    obtain ⟨i, q, es, rfl, rfl, hat⟩ := hrel
    clear hown4 hgrow4 hR3 hk3 hs3 hm hm3 hR2 hE2 hR1
    obtain ⟨g2, c2, rfl⟩ := hat.form
    have hkr := hat.kept
    have hRr := hat.reads
    have hile := hat.le
    have hEr := hE1.below (hkr.below hB (by have := hE1.le; exact this))
    have hcr : wr.cell? ⟨w.heap.size, 0, none⟩ = some (.slice none 0 0) := by
      rw [hkr.cell (by simp) (by show w.heap.size ≠ r; omega)]; go_simp
    have hfr : wr.frozen? ⟨w.heap.size, 0, none⟩ = false := by
      rw [hkr.frozen (by simp) (by show w.heap.size ≠ r; omega)]; go_simp
    have hk0r : Kept r w wr := (Kept.alloc _).trans hkr
    have hposr := hRr.pos
    by_cases hin : i < n
    · have hini : (i : Int) < (n : Int) := by omega
      by_cases hnode : ∃ m k, rd (l.drop q) = some (m, k) ∧ 1 ≤ m ∧ m ≤ 255 ∧ m ≤ l.length - (q + k)
      · obtain ⟨m, k, hrd, hm1, hm2, hm3⟩ := hnode
        obtain ⟨_, _, hk1, hk10, hkle, _, _⟩ := rd_some hrd
        rw [List.length_drop] at hkle
        have hown := hat.own
        go_wp2_with fail
        refine (dnode_ok r ro g o cap l q m k wr hRr hg hrd hm1 hm2 hm3).mono ?_
        rintro e w5 ⟨rfl, hmv5⟩
        have hR5 := hRr.moved hmv5 hg (by omega)
        have hE5 := hEr.below (hmv5.below hB)
        have hk5 := hk0r.trans hmv5.kept
        have hk51 := hkr.trans hmv5.kept
        have hown5 := own_kept hown hmv5.kept (by omega)
        have hpos5 := hR5.pos
        have hc5 : w5.cell? ⟨w.heap.size, 0, none⟩ = some (.slice none 0 0) := by
          rw [hmv5.cell (by show w.heap.size ≠ r; omega)]; exact hcr
        have hf5 : w5.frozen? ⟨w.heap.size, 0, none⟩ = false := by
          rw [World.frozen?_of_block (w := wr) (hmv5.block _ (by show w.heap.size ≠ r; omega))]; exact hfr
        obtain ⟨x, hx⟩ : ∃ x : List UInt8, x = (l.drop (q + k)).take m := ⟨_, rfl⟩
        have hxl : x.length = m := by rw [hx, List.length_take, List.length_drop]; omega
        have hconv : ∀ j, (convert 35 9 (.slice (some ⟨g, o + (q + k), none⟩) m (cap - (q + k)))).run Ybaf.prog (w5.drewN j) = .ok (.string ⟨x.toArray⟩) (w5.drewN j) := by
          intro j
          have := run_convert_bytes_back (P := Ybaf.prog) (w5.drewN j) 35 9 5 ⟨g, o + (q + k), none⟩ (cap - (q + k)) x Ybaf.underlying35 Ybaf.underlying5 Ybaf.underlying9 (fun t ht => ?_)
          · rw [hxl] at this; exact this
          · have h5 := hR5.cells (q + k + t) (by omega)
            subst hx
            rw [List.getElem_take, List.getElem_drop]
            rw [← Nat.add_assoc] at h5
            rw [addr_add]
            exact h5
        have HX : Hid (x = (l.drop (q + k)).take m) := hx
        clear hx hmv5
        go_upto_region 17 with fail
        go_cut [66] (fun s66 wc => s66 = .bool (!above (lastOf none es) x) ∧ ∃ j, wc = w5.drewN j)
        case first =>
          by_cases hi0 : i = 0
          · have he : es = [] := List.eq_nil_of_length_eq_zero (hat.len.trans hi0)
            subst hi0
            go_quiet (fail)
            go_wp2_with fail
            go_meet
            case rel => exact ⟨by rw [he]; rfl, _, rfl⟩
          · have hig : (0 : Int) < (i : Int) := by omega
            have hgd : decide ((0 : Int) < (i : Int)) = true := decide_eq_true hig
            obtain ⟨es', e', he⟩ : ∃ es' e', es = es' ++ [e'] := ⟨es.dropLast, es.getLast (fun hh => hi0 (by rw [← hat.len, hh]; rfl)), (List.dropLast_concat_getLast _).symm⟩
            have hi1 : i = es'.length + 1 := by rw [← hat.len, he]; simp
            have hcell : ∀ j, (w5.drewN j).cell? ⟨g2, es'.length * 2, none⟩ = some (.string ⟨e'.1.toArray⟩) := by
              intro j
              have := hown5.cells (g := g2) rfl (es'.length * 2) (.string ⟨e'.1.toArray⟩) (by
                rw [he, ecells_append, List.getElem?_append_right (by rw [ecells_length]; exact Nat.le_refl _), ecells_length, Nat.sub_self]; rfl)
              rw [addr_add, Nat.zero_add] at this
              exact this
            go_quiet (fail)
            go_wp2_with fail
            go_meet
            case rel =>
              refine ⟨?_, _, rfl⟩
              rw [he, lastOf_snoc, bytesLess_eq, above, above_not]
        case rest =>
          obtain ⟨hs66, j5, rfl⟩ := hcut
          have hb6 : Below w5.heap.size w5 (w5.drewN j5) := below_drewN (Below.refl _ _) j5
          obtain ⟨w6, hw6⟩ : ∃ w6, w6 = w5.drewN j5 := ⟨_, rfl⟩
          have hR6 : Reads r ro g o cap l (q + k + m) w6 := by rw [hw6]; exact hR5.below hb6
          have hE6 : Base F a s B w6 := by rw [hw6]; exact hE5.below (hb6.mono hE5.le)
          have hk6 : Kept r w w6 := by rw [hw6]; exact hk5.trans (Kept.of_below hb6)
          have hk61 : Kept r (w.alloc (.cells #[.slice none 0 0] 46)) w6 := by rw [hw6]; exact hk51.trans (Kept.of_below hb6)
          have hown6 : w6.ownsRow (w.heap.size + 1) 50 2 (.slice (some ⟨g2, 0, none⟩) i c2) i (ecells es) := by rw [hw6]; exact own_kept hown5 (Kept.of_below (r := r) hb6) (by omega)
          have hc6 : w6.cell? ⟨w.heap.size, 0, none⟩ = some (.slice none 0 0) := by rw [hw6]; exact hc5
          have hf6 : w6.frozen? ⟨w.heap.size, 0, none⟩ = false := by rw [hw6]; exact hf5
          have hs6 := hk61.size
          rw [World.size_alloc] at hs6
          have hconv6 : ∀ w7 : World, w7.heap[g]? = w6.heap[g]? → (convert 35 9 (.slice (some ⟨g, o + (q + k), none⟩) m (cap - (q + k)))).run Ybaf.prog w7 = .ok (.string ⟨x.toArray⟩) w7 := by
            intro w7 h7
            have := run_convert_bytes_back (P := Ybaf.prog) w7 35 9 5 ⟨g, o + (q + k), none⟩ (cap - (q + k)) x Ybaf.underlying35 Ybaf.underlying5 Ybaf.underlying9 (fun t ht => ?_)
            · rw [hxl] at this; exact this
            · have h5 := hR6.cells (q + k + t) (by omega)
              have hx := HX.out
              subst hx
              rw [List.getElem_take, List.getElem_drop]
              rw [← Nat.add_assoc] at h5
              rw [addr_add, World.cell?_of_block (w := w6) (by exact h7)]
              exact h5
          rw [← hw6]
          clear hw6 hconv hown5 hc5 hf5 hR5 hE5 hk5 hk51 hpos5 hb6
          have hpos6 := hR6.pos
          have hwb := hR6.big
          by_cases hab : above (lastOf none es) x = true
          · have hab2 : Hid ((!above (lastOf none es) x) = false) := by
              have : (!above (lastOf none es) x) = false := by rw [hab]; rfl
              exact this
            have hs66' := hs66.trans (congrArg Value.bool hab2.out)
            clear hab hs66
            subst hs66'
            by_cases hrd2 : ∃ c k2, rd (l.drop (q + k + m)) = some (c, k2)
            · obtain ⟨c, k2, hrd2⟩ := hrd2
              obtain ⟨_, _, hk21, hk210, hk2le, hc64, _⟩ := rd_some hrd2
              rw [List.length_drop] at hk2le
              by_cases hc0 : c = 0
              · subst hc0
                go_wp2_with fail
                refine (uvM_ok r ro g o cap l (q + k + m) 0 k2 _ hR6 hrd2).mono ?_
                rintro e w7 ⟨rfl, hm7⟩
                have hE7 := hE6.below (hm7.below hB)
                have hc7 : w7.cell? ⟨w.heap.size, 0, none⟩ = some (.slice none 0 0) := by
                  rw [hm7.cell (by show w.heap.size ≠ r; omega)]; exact hc6
                have hf7 : w7.frozen? ⟨w.heap.size, 0, none⟩ = false := by
                  rw [World.frozen?_of_block (w := w6) (hm7.block _ (by show w.heap.size ≠ r; omega))]; exact hf6
                have hs7 := hm7.size
                go_wp2_with fail
                refine (errAt _ _ _ hE7.tab (by omega) (by omega) (by decide)).mono ?_
                rintro e w8 ⟨b, rfl, hb8⟩
                have hk8 := (hk6.trans hm7.kept).trans (Kept.of_below hb8)
                have hc8 : w8.cell? ⟨w.heap.size, 0, none⟩ = some (.slice none 0 0) := by
                  rw [hb8.cell (by show w.heap.size < _; omega)]; exact hc7
                have hf8 : w8.frozen? ⟨w.heap.size, 0, none⟩ = false := by
                  rw [hb8.frozen (by show w.heap.size < _; omega)]; exact hf7
                go_wp2
                refine bodyPost_ret (v := .tuple #[.agg #[.slice none 0 0], .iface 111 (.pointer (some ⟨b, 0, none⟩))]) (by simp [results, Ybaf.results17, go_sem, hc8]) rfl (Or.inl ⟨at_none hat hin ?_, 111, b, Or.inl rfl, rfl, ?_⟩)
                · unfold decE
                  simp only [hrd, List.length_drop, List.drop_drop, ← HX.out, ← Nat.add_assoc, hrd2]
                  simp
                · exact hk8.setCell (Nat.le_refl _) _
              · have hci : ((c : Int) == 0) = false := by simp; omega
                have hdE : decE (lastOf none es) (l.drop q) = some ((x, c), k + m + k2) := by
                  unfold decE
                  simp only [hrd, List.length_drop, List.drop_drop, ← HX.out, ← Nat.add_assoc, hrd2]
                  rw [if_pos ⟨hm1, hm2, by omega⟩, if_pos (by simpa using hab2.out), if_neg hc0]
                go_wp2_with fail
                refine (uvM_ok r ro g o cap l (q + k + m) c k2 _ hR6 hrd2).mono ?_
                rintro e w7 ⟨rfl, hm7⟩
                have hR7 := hR6.moved hm7 hg (by omega)
                have hk71 := hk61.trans hm7.kept
                have hown7 := own_kept hown6 hm7.kept (by omega)
                have hconv7 := hconv6 w7 (hm7.block g hg)
                have hs7 : w.heap.size + 1 ≤ w7.heap.size := by rw [hm7.size]; exact hs6
                clear hconv6 hown6 hR6 hE6 hk6 hk61 hc6 hf6 hm7 hpos6
                go_wp2_with (at_builtin; refine wpList_append_own _ rfl _ _ 44 rfl (w.heap.size + 1) 50 i0 _ 2 24 Ybaf.underlying44 hi0 hz0 hz1 hz2 rfl (by decide) _ _ _ rfl (hown7.alloc _) ⟨w7.heap.size, 0, none⟩ 1 1 [.string ⟨x.toArray⟩, .int .u64 c] rfl rfl ?c1 ?c2 ?c3 ?c4 ?c5 ?_)
                case c1 =>
                  intro j u hj
                  match j, hj with
                  | 0, hj => simp at hj; subst hj; simp [Addr.add]
                  | 1, hj => simp at hj; subst hj; simp [Addr.add]
                case c2 =>
                  intro u hu
                  simp at hu
                  rcases hu with rfl | rfl <;> rfl
                case c3 => unfold maxLen; omega
                case c4 => omega
                case c5 => simp; omega
                intro v' w8 hown8 hgrow8 hnil
                have hg2 := (hown7.lt g2 rfl).1
                have hbl : ∀ t, t < w7.heap.size → t ≠ g2 → w8.heap[t]? = w7.heap[t]? := by
                  intro t ht hne
                  rw [hgrow8.block t (by rw [World.size_alloc]; omega) (by show some t ≠ some g2; simpa using hne)]
                  exact ((Below.refl w7.heap.size w7).alloc (Nat.le_refl _) _).block t ht
                have hs8 : w7.heap.size ≤ w8.heap.size := by have := hgrow8.size; rw [World.size_alloc] at this; omega
                have hk8 : Kept r (w.alloc (.cells #[.slice none 0 0] 46)) w8 :=
                  ⟨hgrow8.os.trans hk71.os, hgrow8.tape.trans hk71.tape, hgrow8.output.trans hk71.output, Nat.le_trans hk71.size hs8, fun t ht hr => by
                    have ht' := ht
                    rw [World.size_alloc] at ht'
                    rw [hbl t (by omega) (by omega)]; exact hk71.block t ht hr⟩
                have hR8 : Reads r ro g o cap l (q + k + m + k2) w8 := hR7.blocks (hbl r (by omega) (by omega)) (hbl g (by omega) (by omega))
                obtain ⟨g3, c3, hv'⟩ : ∃ g3 c3 : Nat, v' = .slice (some ⟨g3, 0, none⟩) (i + 1) c3 := by
                  rcases hown8.2 with ⟨_, h0⟩ | ⟨g3, c3, _, hv, _⟩
                  · exact absurd h0 (by omega)
                  · exact ⟨g3, c3, hv⟩
                subst hv'
                clear hgrow8 hconv7 hown7 hR7 hk71 hbl hnil
                go_wp2
                go_roundg (n + 1 - (i + 1))
                case measure => omega
                case rel =>
                  refine ⟨i + 1, q + (k + m + k2), es ++ [(x, c)], rfl, by go_num, by omega, by simp [hat.len], ⟨_, _, rfl⟩, ?_, ?_, hk8, ?_, at_step hat.eq hin hat.from0 hdE⟩
                  · rw [ecells_append]; exact hown8
                  · rw [show q + (k + m + k2) = q + k + m + k2 by omega]; exact hR8
                  · have := hat.from0; omega
            · go_wp2_with fail
              refine (uv_err r ro g o cap l (q + k + m) _ hE6.tab hR6 (by
                cases hh : rd (l.drop (q + k + m)) with
                | none => rfl
                | some z => exact absurd ⟨z.1, z.2, hh⟩ hrd2)).mono ?_
              rintro e w7 ⟨b, rfl, hb7⟩
              have hk7 := hk6.trans (Kept.of_below hb7)
              have hc7 : w7.cell? ⟨w.heap.size, 0, none⟩ = some (.slice none 0 0) := by
                rw [hb7.cell (by show w.heap.size < _; omega)]; exact hc6
              have hf7 : w7.frozen? ⟨w.heap.size, 0, none⟩ = false := by
                rw [hb7.frozen (by show w.heap.size < _; omega)]; exact hf6
              go_wp2
              refine bodyPost_ret (v := .tuple #[.agg #[.slice none 0 0], .iface 111 (.pointer (some ⟨b, 0, none⟩))]) (by simp [results, Ybaf.results17, go_sem, hc7]) rfl (Or.inl ⟨at_none hat hin ?_, 111, b, Or.inl rfl, rfl, ?_⟩)
              · unfold decE
                have hrd3 : rd (l.drop (q + k + m)) = none := by
                  cases hh : rd (l.drop (q + k + m)) with
                  | none => rfl
                  | some z => exact absurd ⟨z.1, z.2, hh⟩ hrd2
                simp only [hrd, List.length_drop, List.drop_drop, ← HX.out, ← Nat.add_assoc, hrd3]
                simp
              · exact hk7.setCell (Nat.le_refl _) _
          · have hab' : Hid (above (lastOf none es) x = false) := by
              have : above (lastOf none es) x = false := by simpa using hab
              exact this
            have hab2 : (!above (lastOf none es) x) = true := by rw [hab'.out]; rfl
            have hs66' := hs66.trans (congrArg Value.bool hab2)
            clear hab hab2 hs66
            subst hs66'
            go_wp2_with fail
            refine (errAt _ _ _ hE6.tab (by omega) (by omega) (by decide)).mono ?_
            rintro e w7 ⟨b, rfl, hb7⟩
            have hk7 := hk6.trans (Kept.of_below hb7)
            have hc7 : w7.cell? ⟨w.heap.size, 0, none⟩ = some (.slice none 0 0) := by
              rw [hb7.cell (by show w.heap.size < _; omega)]; exact hc6
            have hf7 : w7.frozen? ⟨w.heap.size, 0, none⟩ = false := by
              rw [hb7.frozen (by show w.heap.size < _; omega)]; exact hf6
            go_wp2
            refine bodyPost_ret (v := .tuple #[.agg #[.slice none 0 0], .iface 111 (.pointer (some ⟨b, 0, none⟩))]) (by simp [results, Ybaf.results17, go_sem, hc7]) rfl (Or.inl ⟨at_none hat hin ?_, 111, b, Or.inl rfl, rfl, ?_⟩)
            · unfold decE
              simp only [hrd, List.length_drop, List.drop_drop, ← HX.out, hab'.out]
              simp
            · exact hk7.setCell (Nat.le_refl _) _
      · go_wp2_with fail
        refine (dnode_no F a s B r ro g o cap l q wr hEr hB hRr hg (fun m k hrd hm => hnode ⟨m, k, hrd, hm⟩)).mono ?_
        rintro e w5 ⟨u, b, hu, rfl, hk5⟩
        have hc5 : w5.cell? ⟨w.heap.size, 0, none⟩ = some (.slice none 0 0) := by
          rw [hk5.cell (by have := hkr.size; simp at this; show w.heap.size < _; omega) (by show w.heap.size ≠ r; omega)]; exact hcr
        have hf5 : w5.frozen? ⟨w.heap.size, 0, none⟩ = false := by
          rw [hk5.frozen (by have := hkr.size; simp at this; show w.heap.size < _; omega) (by show w.heap.size ≠ r; omega)]; exact hfr
        go_wp2
        refine bodyPost_ret (v := .tuple #[.agg #[.slice none 0 0], .iface u (.pointer (some ⟨b, 0, none⟩))]) (by simp [results, Ybaf.results17, go_sem, hc5]) rfl (Or.inl ⟨at_none hat hin ?_, u, b, hu, rfl, ?_⟩)
        · unfold decE
          cases hrd : rd (l.drop q) with
          | none => rfl
          | some x =>
            obtain ⟨m, k⟩ := x
            simp only [List.length_drop]
            rw [if_neg (fun hc => hnode ⟨m, k, hrd, hc.1, hc.2.1, by omega⟩)]
        · exact (hk0r.trans hk5).setCell (Nat.le_refl _) _
    · obtain rfl : i = n := by omega
      go_wp2
      have hq0 := hat.from0
      refine bodyPost_ret (v := .tuple #[.agg #[.slice (some ⟨g2, 0, none⟩) i c2], .nilIface]) (by simp [results, Ybaf.results17, go_sem, hcr]) rfl (Or.inr ⟨es, q - (p + 1 + k0), _, ?_, rfl, hk0r.setCell (Nat.le_refl _) _, ?_, ?_⟩)
      · rw [hat.eq, Nat.sub_self, decN]
        simp
      · rw [Nat.add_sub_cancel' hq0]
        exact hRr.setCell _ (by show w.heap.size ≠ r; omega) (by show w.heap.size ≠ g; omega)
      · rw [hat.len]
        have h2 := hat.own
        have hlt := h2.lt g2 rfl
        refine ⟨h2.1, h2.2.imp id ?_⟩
        rintro ⟨g', cap', cur, hv, hb, hgc, rest⟩
        refine ⟨g', cap', cur, hv, by omega, ?_, rest⟩
        rw [Below.heap_setCell _ _ _ _ (by show g' ≠ w.heap.size; omega)]; exact hgc

/-- (*decoder).clock, WHOLE. -/
theorem clock_any (F : Interp) (a : Addr) (s : ByteArray) (B r ro g o cap : Nat) (l : List UInt8) (p : Nat) (w : World) (hE : Base F a s B w) (hB : B ≤ r) (hR : Reads r ro g o cap l p w) (hg : g ≠ r) (hlen : l.length ≤ 1073741824) :
    Calls Ybaf.prog 17 #[.pointer (some ⟨r, ro, none⟩)] w (Clocked r ro g o cap l p w) := by
  by_cases ht : ∃ hp : p < l.length, (l[p]'hp).toNat = 1
  · obtain ⟨hp, h1⟩ := ht
    by_cases hc : ∃ n k, rd (l.drop (p + 1)) = some (n, k) ∧ n ≤ (l.length - (p + 1 + k)) / 3
    · obtain ⟨n, k, hrd, hn⟩ := hc
      have hd := dec_tag hp h1
      simp only [hrd, List.length_drop, List.drop_drop] at hd
      rw [if_pos (by rw [Nat.sub_sub]; exact hn)] at hd
      by_cases hn0 : n = 0
      · subst hn0
        refine (clock_zero r ro g o cap l p k w hR hg hp h1 hrd).mono ?_
        rintro e w' ⟨rfl, hk, hR'⟩
        exact Or.inr ⟨[], 1 + k, .slice none 0 0, hd, rfl, hk, by rw [← Nat.add_assoc]; exact hR', World.ownsRow_nil _ _ _ _, fun _ => rfl⟩
      · refine (clock_loop F a s B r ro g o cap l p n k w hE hB hR hg hlen hp h1 hrd hn (by omega)).mono ?_
        rintro e w' (⟨hnone, he⟩ | ⟨es, k', v, hs, rfl, hk, hR', hown⟩)
        · refine Or.inl ⟨?_, he⟩
          rw [hd, hnone]
        · refine Or.inr ⟨es, 1 + k + k', v, ?_, rfl, hk, ?_, hown, ?_⟩
          · rw [hd, hs]
          · rw [show p + (1 + k + k') = p + 1 + k + k' by omega]; exact hR'
          · intro h0
            have := (decN_sound _ _ _ _ _ hs).1
            rw [h0] at this
            exact absurd this.symm hn0
    · refine (clock_count F a s B r ro g o cap l p w hE hB hR hg hp h1 (fun n k hrd hn => hc ⟨n, k, hrd, hn⟩)).mono ?_
      intro e w' he
      refine Or.inl ⟨?_, he⟩
      rw [dec_tag hp h1]
      cases hrd : rd (l.drop (p + 1)) with
      | none => rfl
      | some x =>
        obtain ⟨n, k⟩ := x
        simp only [List.length_drop]
        rw [if_neg (fun hn => hc ⟨n, k, hrd, by rw [← Nat.sub_sub]; exact hn⟩)]
  · refine (clock_tag F a s B r ro g o cap l p w hE hR (fun hp h1 => ht ⟨hp, h1⟩)).mono ?_
    intro e w' he
    exact Or.inl ⟨dec_no_tag (fun hp h1 => ht ⟨hp, h1⟩), he⟩

end Go.Proofs.YbulkbguFmt
