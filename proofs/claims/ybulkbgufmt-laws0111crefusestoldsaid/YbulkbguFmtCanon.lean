/-
  DERIVED. THE WALK: LawS0111CCanonical (6).
-/
import Derived.Test.YbulkbguFmtEncode
namespace Go.Proofs.YbulkbguFmt
open Go.RowKit Go.Extern.Stop Go.Stop Go.Extern

theorem Ybaf.info9 : (Ybaf.prog.info? 9).map (fun i => (i.zero, i.size, i.bytes)) = some (some (.string ⟨#[]⟩), 1, 16) := by kernel_rfl
theorem Ybaf.info22 : (Ybaf.prog.info? 22).map (fun i => (i.zero, i.size, i.bytes)) = some (some (.int .u64 0), 1, 8) := by kernel_rfl

/-- clock on a nil slice. -/
theorem clock_nil (F : Interp) (a : Addr) (s : ByteArray) (B r ro : Nat) (ad : Option Addr) (cap : Nat) (w : World) (hE : Base F a s B w) (c0 : w.cell? ⟨r, ro, none⟩ = some (.slice ad 0 cap)) (c1 : w.cell? ⟨r, ro + 1, none⟩ = some (.int .i64 0)) :
    Calls Ybaf.prog 17 #[.pointer (some ⟨r, ro, none⟩)] w (ErrK r tupC w) := by
  have hb0 : Below w.heap.size w (w.alloc (.cells #[.slice none 0 0] 46)) := (Below.refl _ _).alloc (Nat.le_refl _) _
  have hr : r < w.heap.size := World.block_lt_of_cell? _ _ c0
  have hE1 := hE.below (hb0.mono hE.le)
  have c0' : (w.alloc (.cells #[.slice none 0 0] 46)).cell? ⟨r, ro, none⟩ = some (.slice ad 0 cap) := by rw [hb0.cell (by exact hr)]; exact c0
  have c1' : (w.alloc (.cells #[.slice none 0 0] 46)).cell? ⟨r, ro + 1, none⟩ = some (.int .i64 ((0 : Nat) : Int)) := by rw [hb0.cell (by exact hr)]; exact c1
  go_enter Ybaf.func17, Ybaf.ntmps17
  go_wp2_with fail
  refine (tag_end F r ro 0 cap ad 1 _ hE1.env.ans hE1.tab c0' c1' (by omega) (by omega)).mono ?_
  rintro e w1 ⟨b, rfl, hb1⟩
  have hk : Kept r w w1 := (Kept.alloc _).trans (Kept.of_below hb1)
  have hc : w1.cell? ⟨w.heap.size, 0, none⟩ = some (.slice none 0 0) := by
    rw [hb1.cell (by simp)]; go_simp
  have hf : w1.frozen? ⟨w.heap.size, 0, none⟩ = false := by
    rw [hb1.frozen (by simp)]; go_simp
  go_wp2
  refine bodyPost_ret (v := .tuple #[.agg #[.slice none 0 0], .iface 111 (.pointer (some ⟨b, 0, none⟩))]) (by simp [results, Ybaf.results17, go_sem, hc]) rfl ⟨111, b, Or.inl rfl, rfl, ?_⟩
  exact hk.setCell (Nat.le_refl _) _

theorem canon_big (ao : Option Addr) (n cap kk : Nat) (w : World) (h : 4096 < n) (hm : n ≤ 9223372036854775807) :
    Calls Ybaf.prog 6 #[.slice ao n cap, .int .u16 kk] w fun e w' => e = .returned (.bool true) ∧ Below w.heap.size w w' := by
  have h' : (4096 : Int) < (n : Int) := by omega
  go_enter Ybaf.func6, Ybaf.ntmps6
  go_wp2
  go_ret
  exact ⟨rfl, Below.refl _ _⟩

theorem canon_nil (F : Interp) (a : Addr) (s : ByteArray) (ad : Option Addr) (cap kk : Nat) (w : World) (hE : Base F a s w.heap.size w) (hk : kk < 65536) :
    Calls Ybaf.prog 6 #[.slice ad 0 cap, .int .u16 kk] w fun e w' => e = .returned (.bool true) ∧ Below w.heap.size w w' := by
  have hb0 : Below w.heap.size w (w.alloc (.cells #[.slice ad 0 cap, .int .i64 0] 43)) := (Below.refl _ _).alloc (Nat.le_refl _) _
  have hE1 := hE.below hb0
  go_enter Ybaf.func6, Ybaf.ntmps6
  go_wp2_with fail
  refine (clock_nil F a s w.heap.size w.heap.size 0 ad cap _ hE1 (by go_simp) (by go_simp)).mono ?_
  rintro e w1 ⟨u, b, hu, rfl, hk1⟩
  have hb1 : Below w.heap.size w w1 := hb0.trans (hk1.below (Nat.le_refl _) (by simp))
  go_wp2
  go_ret
  refine ⟨rfl, ?_⟩
  exact (hb1.alloc hb1.size _)

theorem Valid.lt : ∀ {es : List Ent} {prev : Option (List UInt8)}, Valid prev es → ∀ i (h : i + 1 < es.length), (es[i]'(by omega)).1 < (es[i + 1]).1
  | [], _, _, i, h => absurd h (by simp)
  | [e], _, _, i, h => absurd h (by simp)
  | e :: f :: es, prev, hv, 0, h => by
    have := hv.2.2.1
    simpa [above] using this
  | e :: f :: es, prev, hv, i + 1, h => by
    have := Valid.lt hv.2.2 i (by simpa using h)
    simpa using this

/-- WHERE THE COPYING LOOP STANDS: i names and k counters are laid. -/
structure Laid (W : Nat) (w0 : World) (gN gC n : Nat) (es : List Ent) (i k : Nat) (wr : World) : Prop where
  below : Below W w0 wr
  ne : gN ≠ gC
  hN : W ≤ gN
  hC : W ≤ gC
  ltN : gN < wr.heap.size
  ltC : gC < wr.heap.size
  someN : ∀ j, j < n → ∃ v, wr.cell? ⟨gN, j, none⟩ = some v
  someC : ∀ j, j < n → ∃ v, wr.cell? ⟨gC, j, none⟩ = some v
  freeN : ∀ j, wr.frozen? ⟨gN, j, none⟩ = false
  freeC : ∀ j, wr.frozen? ⟨gC, j, none⟩ = false
  doneN : ∀ j (h : j < es.length), j < i → wr.cell? ⟨gN, j, none⟩ = some (.string ⟨((es[j]).1).toArray⟩)
  doneC : ∀ j (h : j < es.length), j < k → wr.cell? ⟨gC, j, none⟩ = some (.int .u64 (((es[j]).2 : Nat) : Int))

theorem Laid.next {W : Nat} {w0 : World} {gN gC n : Nat} {es : List Ent} {i k : Nat} {wr w' : World} (h : Laid W w0 gN gC n es i k wr) (hb : Below wr.heap.size wr w') (hW : W ≤ wr.heap.size) : Laid W w0 gN gC n es i k w' := by
  refine ⟨h.below.trans (hb.mono hW), h.ne, h.hN, h.hC, Nat.lt_of_lt_of_le h.ltN hb.size, Nat.lt_of_lt_of_le h.ltC hb.size, ?_, ?_, ?_, ?_, ?_, ?_⟩
  · intro j hj; rw [hb.cell (by exact h.ltN)]; exact h.someN j hj
  · intro j hj; rw [hb.cell (by exact h.ltC)]; exact h.someC j hj
  · intro j; rw [hb.frozen (by exact h.ltN)]; exact h.freeN j
  · intro j; rw [hb.frozen (by exact h.ltC)]; exact h.freeC j
  · intro j hj hi; rw [hb.cell (by exact h.ltN)]; exact h.doneN j hj hi
  · intro j hj hi; rw [hb.cell (by exact h.ltC)]; exact h.doneC j hj hi

theorem below_set {B : Nat} {w w' : World} (h : Below B w w') {a : Addr} (ha : B ≤ a.block) (v : Value) : Below B w (w'.setCell a v) :=
  ⟨h.os, h.tape, h.output, by have := h.size; simpa using this, fun k hk => by rw [Below.heap_setCell _ _ _ _ (by omega)]; exact h.block k hk⟩

theorem Laid.setN {W : Nat} {w0 : World} {gN gC n : Nat} {es : List Ent} {i k : Nat} {wr : World} (h : Laid W w0 gN gC n es i k wr) (hi : i < es.length) (hin : i < n) : Laid W w0 gN gC n es (i + 1) k (wr.setCell ⟨gN, i, none⟩ (.string ⟨((es[i]).1).toArray⟩)) := by
  obtain ⟨v0, hv0⟩ := h.someN i hin
  have hne := h.ne
  refine ⟨below_set h.below (by exact h.hN) _, h.ne, h.hN, h.hC, by simpa using h.ltN, by simpa using h.ltC, ?_, ?_, ?_, ?_, ?_, ?_⟩
  · intro j hj
    by_cases hji : j = i
    · subst hji; exact ⟨_, World.cell?_setCell_same _ _ _ hv0⟩
    · rw [World.cell?_setCell_other _ _ _ _ (by simp <;> omega)]; exact h.someN j hj
  · intro j hj; rw [World.cell?_setCell_other _ _ _ _ (by simp <;> omega)]; exact h.someC j hj
  · intro j; rw [World.frozen?_setCell]; exact h.freeN j
  · intro j; rw [World.frozen?_setCell]; exact h.freeC j
  · intro j hj hji
    by_cases he : j = i
    · subst he; exact World.cell?_setCell_same _ _ _ hv0
    · rw [World.cell?_setCell_other _ _ _ _ (by simp <;> omega)]; exact h.doneN j hj (by omega)
  · intro j hj hji; rw [World.cell?_setCell_other _ _ _ _ (by simp <;> omega)]; exact h.doneC j hj hji

theorem Laid.setC {W : Nat} {w0 : World} {gN gC n : Nat} {es : List Ent} {i k : Nat} {wr : World} (h : Laid W w0 gN gC n es i k wr) (hi : k < es.length) (hin : k < n) : Laid W w0 gN gC n es i (k + 1) (wr.setCell ⟨gC, k, none⟩ (.int .u64 (((es[k]).2 : Nat) : Int))) := by
  obtain ⟨v0, hv0⟩ := h.someC k hin
  have hne := h.ne
  refine ⟨below_set h.below (by exact h.hC) _, h.ne, h.hN, h.hC, by simpa using h.ltN, by simpa using h.ltC, ?_, ?_, ?_, ?_, ?_, ?_⟩
  · intro j hj; rw [World.cell?_setCell_other _ _ _ _ (by simp <;> omega)]; exact h.someN j hj
  · intro j hj
    by_cases hji : j = k
    · subst hji; exact ⟨_, World.cell?_setCell_same _ _ _ hv0⟩
    · rw [World.cell?_setCell_other _ _ _ _ (by simp <;> omega)]; exact h.someC j hj
  · intro j; rw [World.frozen?_setCell]; exact h.freeN j
  · intro j; rw [World.frozen?_setCell]; exact h.freeC j
  · intro j hj hji; rw [World.cell?_setCell_other _ _ _ _ (by simp <;> omega)]; exact h.doneN j hj hji
  · intro j hj hji
    by_cases he : j = k
    · subst he; exact World.cell?_setCell_same _ _ _ hv0
    · rw [World.cell?_setCell_other _ _ _ _ (by simp <;> omega)]; exact h.doneC j hj (by omega)

theorem own_some {w : World} {base e n g c : Nat} {xs : List Value} (h : w.ownsRow base e 1 (.slice (some ⟨g, 0, none⟩) n c) n xs) : (∀ j, j < n → ∃ v, w.cell? ⟨g, j, none⟩ = some v) ∧ (∀ j, w.frozen? ⟨g, j, none⟩ = false) := by
  have hl : xs.length = n := by simpa using h.1
  refine ⟨fun j hj => ?_, fun j => ?_⟩
  · have := h.cells (g := g) rfl j (xs[j]'(by omega)) (List.getElem?_eq_getElem _)
    rw [addr_add, Nat.zero_add] at this
    exact ⟨_, this⟩
  · rcases h.2 with ⟨hx, _⟩ | ⟨g', c', cur, hv, _, hg, _⟩
    · cases hx
    · cases hv
      simp [World.frozen?, hg]

set_option maxHeartbeats 1000000 in
set_option maxRecDepth 100000 in
theorem canon_main (F : Interp) (a : Addr) (s : ByteArray) (g o cap : Nat) (l : List UInt8) (kk : Nat) (w : World) (hE : Base F a s w.heap.size w) (hcells : ∀ j (hj : j < l.length), w.cell? ⟨g, o + j, none⟩ = some (.int .u8 (l[j]).toNat))
    (hn0 : 0 < l.length) (hl : l.length ≤ 4096) (hcap : l.length ≤ cap) (hbig : cap ≤ 9223372036854775807) (hk : kk < 65536) :
    Calls Ybaf.prog 6 #[.slice (some ⟨g, o, none⟩) l.length cap, .int .u16 kk] w fun e w' => e = .returned (.bool true) ∧ Below w.heap.size w w' := by
  have hgl : g < w.heap.size := World.block_lt_of_cell? _ _ (hcells 0 hn0)
  obtain ⟨p, hp⟩ : ∃ p : Nat, p = kk % (l.length + 1) := ⟨_, rfl⟩
  have hpl : p ≤ l.length := by have := Nat.mod_lt kk (show 0 < l.length + 1 by omega); omega
  have hpi : (kk : Int) % ((l.length : Int) + 1) = (p : Int) := by rw [hp]; simp
  have hb0 : Below w.heap.size w (w.alloc (.cells #[.slice (some ⟨g, o, none⟩) l.length cap, .int .i64 p] 43)) := (Below.refl _ _).alloc (Nat.le_refl _) _
  have hE1 := hE.below hb0
  have hR1 : Reads w.heap.size 0 g o cap l p (w.alloc (.cells #[.slice (some ⟨g, o, none⟩) l.length cap, .int .i64 p] 43)) :=
    ⟨(World.cell?_alloc_at (w := w) _ _ _ _ rfl).trans rfl, (World.cell?_alloc_at (w := w) _ _ _ _ rfl).trans rfl, World.frozen?_alloc_at (w := w) _ _ _ _ rfl, fun j hj => by rw [hb0.cell (by exact hgl)]; exact hcells j hj, hpl, hcap, hbig⟩
  have HC : Hid (∀ j (hj : j < l.length), w.cell? ⟨g, o + j, none⟩ = some (.int .u8 (l[j]).toNat)) := hcells
  clear hcells hp
  have hw1 : IntKind.i64.wrap ((l.length : Int) + 1) = (l.length : Int) + 1 := by rw [IntKind.wrap_i64]; omega
  go_enter Ybaf.func6, Ybaf.ntmps6
  go_wp2_with fail
  refine (clock_any F a s w.heap.size w.heap.size 0 g o cap l p _ hE1 (Nat.le_refl _) hR1 (by omega) (by omega)).mono ?_
  rintro e w1 (⟨hnone, u, b, hu, rfl, hk1⟩ | ⟨es, k, v, hdec, rfl, hk1, hR, hown, hnil⟩)
  · have hb1 : Below w.heap.size w w1 := hb0.trans (hk1.below (Nat.le_refl _) (by simp))
    go_wp2
    go_ret
    refine ⟨rfl, ?_⟩
    exact (hb1.alloc hb1.size _)
  · have hb1 : Below w.heap.size w w1 := hb0.trans (hk1.below (Nat.le_refl _) (by simp))
    obtain ⟨hval, hle, hkl⟩ := dec_sound hdec
    have hpos1 := hR.pos
    have hle1 := hR.le
    obtain ⟨i9, hi9, hz90, hz91, hz92⟩ := info_parts Ybaf.info9
    obtain ⟨i22, hi22, hz220, hz221, hz222⟩ := info_parts Ybaf.info22
    have hdl : es.length ≤ 4096 := by
      have h1 := encE_length es (fun e he => (hval.nodes e he).1)
      have h2 := congrArg List.length hle
      simp [enc] at h2
      omega
    obtain ⟨n, hn⟩ : ∃ n, n = es.length := ⟨_, rfl⟩
    rw [← hn] at hown hdl
    obtain ⟨ae, g3, c3, rfl, hae, hce⟩ : ∃ (ae : Option Addr) (g3 c3 : Nat), v = .slice ae n c3 ∧ (0 < n → ae = some ⟨g3, 0, none⟩ ∧ w.heap.size < g3 ∧ g3 < w1.heap.size) ∧ (∀ j u, (ecells es)[j]? = some u → w1.cell? ⟨g3, j, none⟩ = some u) := by
      have hlt := hown.lt
      rcases hown.2 with ⟨rfl, h0⟩ | ⟨g3, c3, cur, rfl, hbg, hg3, _⟩
      · refine ⟨none, 0, 0, by rw [h0], fun h => absurd h (by omega), fun j u hj => ?_⟩
        have : es = [] := List.eq_nil_of_length_eq_zero (by omega)
        rw [this] at hj; simp [ecells] at hj
      · refine ⟨_, g3, c3, rfl, fun _ => ⟨rfl, ?_, (hlt g3 rfl).2⟩, fun j u hj => ?_⟩
        · have := hbg; rw [World.size_alloc] at this; omega
        · have := hown.cells (g := g3) rfl j u hj
          rw [addr_add, Nat.zero_add] at this
          exact this
    have HV : Hid (Valid none es) := hval
    have HL : Hid (l.drop p = enc es ++ (l.drop p).drop k) := hle
    have HK : Hid (k = (enc es).length) := hkl
    have HN : Hid (n = es.length) := hn
    have HA : Hid (0 < n → ae = some ⟨g3, 0, none⟩ ∧ w.heap.size < g3 ∧ g3 < w1.heap.size) := hae
    have HE : Hid (∀ j u, (ecells es)[j]? = some u → w1.cell? ⟨g3, j, none⟩ = some u) := hce
    clear hval hle hkl hn hae hce hnil hdec hown
    have hs1 : w.heap.size + 1 ≤ w1.heap.size := by have := hk1.size; rw [World.size_alloc] at this; omega
    have hlp : ¬ ((p : Int) + (k : Int) < (p : Int)) := by omega
    have hlp2 : ¬ ((l.length : Int) < (p : Int) + (k : Int)) := by omega
    have hb2 : Below w1.heap.size w1 (w1.alloc (.cells #[.slice ae n c3] 46)) := (Below.refl _ _).alloc (Nat.le_refl _) _
    have hpos2 : (w1.alloc (.cells #[.slice ae n c3] 46)).cell? ⟨w.heap.size, 1, none⟩ = some (.int .i64 ((p : Int) + (k : Int))) := by
      rw [hb2.cell (by show w.heap.size < _; omega)]; simpa using hpos1
    clear hpos1
    go_upto_region 10 with fail
    go_upto_region 11 with (at_make; refine wpList_make_full _ rfl _ _ 33 rfl (w1.heap.size + 1) 9 i9 _ 1 Ybaf.underlying33 hi9 hz90 hz91 .i64 .i64 _ _ n rfl rfl rfl rfl (by rw [hz92]; omega) (by unfold maxLen; omega) (by simp) ?_; intro w2 hown2 hgrow2)
    have hb3 : Below (w1.heap.size + 1) (w1.alloc (.cells #[.slice ae n c3] 46)) w2 := (Below.refl _ _).grown hgrow2 (by simp) (fun k hk => by cases hk)
    have hh2 : w2.cell? ⟨w1.heap.size, 0, none⟩ = some (.slice ae n c3) := by
      rw [hb3.cell (by exact Nat.lt_succ_self _)]; exact (World.cell?_alloc_at (w := w1) _ _ _ _ rfl).trans rfl
    have hs2 : w1.heap.size + 1 < w2.heap.size := by
      have := (hown2.lt _ rfl).2
      simpa using this
    go_upto_region 12 with (at_make; refine wpList_make_full _ rfl _ _ 34 rfl (w1.heap.size + 1) 22 i22 _ 1 Ybaf.underlying34 hi22 hz220 hz221 .i64 .i64 _ _ n rfl rfl rfl rfl (by rw [hz222]; omega) (by unfold maxLen; omega) (by omega) ?_; intro w3 hown3 hgrow3)
    have hb4 : Below w2.heap.size w2 w3 := (Below.refl _ _).grown hgrow3 (Nat.le_refl _) (fun k hk => by cases hk)
    have hlaid : Laid (w1.heap.size + 1) (w1.alloc (.cells #[.slice ae n c3] 46)) (w1.heap.size + 1) w2.heap.size n es 0 0 w3 := by
      rw [World.size_alloc] at hown2
      obtain ⟨n1, n2⟩ := own_some hown2
      obtain ⟨c1, c2⟩ := own_some hown3
      refine ⟨hb3.trans (hb4.mono (by omega)), by omega, Nat.le_refl _, by omega, by have := hb4.size; omega, (hown3.lt _ rfl).2, ?_, c1, ?_, c2, fun j h hj => absurd hj (by omega), fun j h hj => absurd hj (by omega)⟩
      · intro j hj; rw [hb4.cell (by show w1.heap.size + 1 < _; omega)]; exact n1 j hj
      · intro j; rw [hb4.frozen (by show w1.heap.size + 1 < _; omega)]; exact n2 j
    clear hown2 hown3 hgrow2 hgrow3 hb3 hb4 hh2
    go_wp2_with fail
    go_loopg [11] (n + 1) (fun gk vi wr => ∃ i : Nat, gk = n + 1 - i ∧ vi = .int .i64 (i : Nat) ∧ i ≤ n ∧ Laid (w1.heap.size + 1) (w1.alloc (.cells #[.slice ae n c3] 46)) (w1.heap.size + 1) w2.heap.size n es i i wr)
    case atStart => exact ⟨0, rfl, rfl, Nat.zero_le _, hlaid⟩
    case round =>
      obtain ⟨i, rfl, rfl, hin, hat⟩ := hrel
      clear hlaid
      have hsr : w1.heap.size + 1 ≤ wr.heap.size := by have := hat.below.size; rw [World.size_alloc] at this; exact this
      have hh : wr.cell? ⟨w1.heap.size, 0, none⟩ = some (.slice ae n c3) := by
        rw [hat.below.cell (by exact Nat.lt_succ_self _)]; exact (World.cell?_alloc_at (w := w1) _ _ _ _ rfl).trans rfl
      by_cases hlt : i < n
      · have hlt' : i < es.length := by rw [← HN.out]; exact hlt
        have hlti : (i : Int) < (n : Int) := by omega
        obtain ⟨rfl, hg3a, hg3b⟩ := HA.out (by omega)
        have hEnt : ∀ (j : Nat) (hj : j < es.length) (w' : World), Below wr.heap.size wr w' → w'.cell? ⟨g3, j * 2, none⟩ = some (.string ⟨((es[j]).1).toArray⟩) ∧ w'.cell? ⟨g3, j * 2 + 1, none⟩ = some (.int .u64 (((es[j]).2 : Nat) : Int)) := by
          intro j hj w' hb'
          have hd : es = es.take j ++ (es[j] :: es.drop (j + 1)) := by simp
          have hl : (es.take j).length = j := by rw [List.length_take]; omega
          have hce : ecells es = ecells (es.take j) ++ (.string ⟨((es[j]).1).toArray⟩ :: .int .u64 (((es[j]).2 : Nat) : Int) :: ecells (es.drop (j + 1))) := by
            conv => lhs; rw [hd, ecells_append]
            rfl
          have hlc : (ecells (es.take j)).length = j * 2 := by rw [ecells_length, hl]
          have hbb : ∀ x : Nat, w'.cell? ⟨g3, x, none⟩ = w1.cell? ⟨g3, x, none⟩ := fun x => by
            rw [hb'.cell (by show g3 < _; omega), hat.below.cell (by show g3 < _; omega), hb2.cell (by exact hg3b)]
          refine ⟨?_, ?_⟩
          · rw [hbb]; refine HE.out _ _ ?_
            rw [hce, List.getElem?_append_right (by omega), hlc, Nat.sub_self]; rfl
          · rw [hbb]; refine HE.out _ _ ?_
            rw [hce, List.getElem?_append_right (by omega), hlc, Nat.add_sub_cancel_left]; rfl
        have hent := hEnt i hlt' wr (Below.refl _ _)
        obtain ⟨he1, he2⟩ := hent
        have hok := HV.out.nodes _ (List.getElem_mem hlt')
        obtain ⟨hx1, hx2, hc0, hc64⟩ := hok
        have hst := fun w' hb' => Laid.next (w' := w') hat hb' hsr
        have HEnt : Hid (∀ (j : Nat) (hj : j < es.length) (w' : World), Below wr.heap.size wr w' → w'.cell? ⟨g3, j * 2, none⟩ = some (.string ⟨((es[j]).1).toArray⟩) ∧ w'.cell? ⟨g3, j * 2 + 1, none⟩ = some (.int .u64 (((es[j]).2 : Nat) : Int))) := hEnt
        clear hEnt
        obtain ⟨x, hx⟩ : ∃ x, x = (es[i]).1 := ⟨_, rfl⟩
        obtain ⟨c, hc⟩ : ∃ c, c = (es[i]).2 := ⟨_, rfl⟩
        rw [← hx] at he1 hx1 hx2
        rw [← hc] at he2 hc0 hc64
        have HX : Hid (x = (es[i]).1) := hx
        have HCC : Hid (c = (es[i]).2) := hc
        clear hx hc
        have hxi1 : (1 : Int) ≤ (x.length : Int) := by omega
        have hxi2 : (x.length : Int) ≤ 255 := by omega
        have hci : ((c : Int) == 0) = false := by simp; omega
        go_upto_region 18 with fail
        have hb5 : Below wr.heap.size wr (wr.alloc (.cells #[.string ⟨x.toArray⟩, .int .u64 (c : Int)] 50)) := (Below.refl _ _).alloc (Nat.le_refl _) _
        go_cut [101] (fun s101 wc => s101 = .bool false ∧ ∃ j, wc = (wr.alloc (.cells #[.string ⟨x.toArray⟩, .int .u64 (c : Int)] 50)).drewN j)
        case first =>
          have hq0 : ∀ j, ((wr.alloc (.cells #[.string ⟨x.toArray⟩, .int .u64 (c : Int)] 50)).drewN j).cell? ⟨w1.heap.size, 0, none⟩ = some (.slice (some ⟨g3, 0, none⟩) n c3) := fun j =>
            (hb5.cell (by show w1.heap.size < _; omega)).trans hh
          have hq1 : ∀ j, ((wr.alloc (.cells #[.string ⟨x.toArray⟩, .int .u64 (c : Int)] 50)).drewN j).cell? ⟨wr.heap.size, 0, none⟩ = some (.string ⟨x.toArray⟩) := fun j =>
            (World.cell?_alloc_at (w := wr) _ _ _ _ rfl).trans rfl
          by_cases hi0 : i = 0
          · subst hi0
            clear hb5 hst
            go_quiet (fail)
            go_wp2_with fail
            go_meet
            case rel => exact ⟨rfl, _, rfl⟩
          · obtain ⟨m, rfl⟩ : ∃ m, i = m + 1 := ⟨i - 1, by omega⟩
            have hq2 : ∀ j, ((wr.alloc (.cells #[.string ⟨x.toArray⟩, .int .u64 (c : Int)] 50)).drewN j).cell? ⟨g3, m * 2, none⟩ = some (.string ⟨((es[m]'(by omega)).1).toArray⟩) := fun j =>
              (HEnt.out m (by omega) _ hb5).1
            have hord := HV.out.lt m hlt'
            rw [← HX.out] at hord
            obtain ⟨y, hy⟩ : ∃ y, y = (es[m]'(by omega)).1 := ⟨_, rfl⟩
            rw [← hy] at hq2 hord
            have hbl : Op.bytesLess y x = true := by rw [bytesLess_eq]; exact decide_eq_true hord
            clear hy hord
            have hml : (m : Int) < (n : Int) := by omega
            clear hb5 hst
            go_quiet (fail)
            go_wp2_with fail
            go_meet
            case rel => exact ⟨rfl, _, rfl⟩
        case rest =>
          obtain ⟨rfl, j5, rfl⟩ := hcut
          have hb6 : Below wr.heap.size wr ((wr.alloc (.cells #[.string ⟨x.toArray⟩, .int .u64 (c : Int)] 50)).drewN j5) := below_drewN hb5 j5
          obtain ⟨w6, hw6⟩ : ∃ w6, w6 = (wr.alloc (.cells #[.string ⟨x.toArray⟩, .int .u64 (c : Int)] 50)).drewN j5 := ⟨_, rfl⟩
          have h60 : w6.cell? ⟨wr.heap.size, 0, none⟩ = some (.string ⟨x.toArray⟩) := by rw [hw6]; exact (World.cell?_alloc_at (w := wr) _ _ _ _ rfl).trans rfl
          have h61 : w6.cell? ⟨wr.heap.size, 1, none⟩ = some (.int .u64 (c : Int)) := by rw [hw6]; exact (World.cell?_alloc_at (w := wr) _ _ _ _ rfl).trans rfl
          rw [← hw6] at hb6 ⊢
          have hl6 := hst w6 hb6
          obtain ⟨vN, hvN⟩ := hl6.someN i hlt
          have frN := hl6.freeN i
          have hl7 := hl6.setN hlt' hlt
          rw [← HX.out] at hl7
          obtain ⟨vC, hvC⟩ := hl7.someC i hlt
          have frC := hl7.freeC i
          have hl8 := hl7.setC hlt' hlt
          rw [← HCC.out] at hl8
          have hltN := hat.ltN
          have hltC := hat.ltC
          have h71 : (w6.setCell ⟨w1.heap.size + 1, i, none⟩ (.string ⟨x.toArray⟩)).cell? ⟨wr.heap.size, 1, none⟩ = some (.int .u64 (c : Int)) := by
            rw [World.cell?_setCell_other _ _ _ _ (by simp <;> omega)]; exact h61
          clear hw6 hb5 hb6 hst hl6 hl7 hat h61 hh he1 he2
          go_wp2
          go_roundg (n + 1 - (i + 1))
          case measure => omega
          case rel => exact ⟨i + 1, rfl, by go_num, by omega, hl8⟩
      · obtain rfl : i = n := by omega
        have hlim : (enc es).length ≤ 4096 := by rw [← HK.out]; omega
        have hbw : Below w.heap.size w wr := hb1.trans ((hb2.mono (by omega)).trans (hat.below.mono (by omega)))
        have hgr : ∀ j (hj : j < l.length), wr.cell? ⟨g, o + j, none⟩ = some (.int .u8 (l[j]).toNat) := fun j hj => by
          rw [hbw.cell (by exact hgl)]; exact HC.out j hj
        have hpr : wr.cell? ⟨w.heap.size, 1, none⟩ = some (.int .i64 ((p : Int) + (k : Int))) := by
          rw [hat.below.cell (by show w.heap.size < _; omega)]; exact hpos2
        have hnl : es.length = i := HN.out.symm
        have hsn : ∀ j (h : j < es.length), wr.cell? ⟨w1.heap.size + 1, 0 + j, none⟩ = some (.string ⟨((es[j]).1).toArray⟩) := fun j h => by
          rw [Nat.zero_add]; exact hat.doneN j h (by omega)
        have hsc : ∀ j (h : j < es.length), wr.cell? ⟨w2.heap.size, 0 + j, none⟩ = some (.int .u64 (((es[j]).2 : Nat) : Int)) := fun j h => by
          rw [Nat.zero_add]; exact hat.doneC j h (by omega)
        have hcall := encode_walk (some ⟨w1.heap.size + 1, 0, none⟩) (some ⟨w2.heap.size, 0, none⟩) (w1.heap.size + 1) 0 i w2.heap.size 0 i es i wr hnl (fun _ => ⟨rfl, rfl⟩) hsn hsc (fun e he => (HV.out.nodes e he).2.2.2) (by omega) (by omega)
        have HG : Hid (∀ j (hj : j < l.length), wr.cell? ⟨g, o + j, none⟩ = some (.int .u8 (l[j]).toNat)) := hgr
        have HCA : Hid (Calls Ybaf.prog 16 #[.slice (some ⟨w1.heap.size + 1, 0, none⟩) i i, .slice (some ⟨w2.heap.size, 0, none⟩) i i] wr fun e w' => ∃ v, e = .returned v ∧ w'.ownsRow wr.heap.size 5 1 v (enc es).length (Lib.byteCells (enc es)) ∧ Below wr.heap.size wr w') := hcall
        have HNL : Hid (es.length = i) := hnl
        clear hgr hsn hsc hcall hnl
        go_wp2_with fail
        refine HCA.out.mono ?_
        rintro e w9 ⟨v9, rfl, hown9, hb9⟩
        have hbw9 : Below w.heap.size w w9 := hbw.trans (hb9.mono (by omega))
        have hz : (enc es).length = k := HK.out.symm
        have hk0 : 0 < k := by rw [HK.out]; simp [enc]
        obtain ⟨g9, c9, rfl⟩ : ∃ g9 c9 : Nat, v9 = .slice (some ⟨g9, 0, none⟩) k c9 := by
          rcases hown9.2 with ⟨_, h0⟩ | ⟨g9, c9, _, hv, _⟩
          · exact absurd h0 (by omega)
          · exact ⟨g9, c9, by rw [hv, hz]⟩
        have hcA : ∀ j, (convert 35 9 (.slice (some ⟨g9, 0, none⟩) k c9)).run Ybaf.prog (w9.drewN j) = .ok (.string ⟨(enc es).toArray⟩) (w9.drewN j) := by
          intro j
          have := run_convert_bytes_back (P := Ybaf.prog) (w9.drewN j) 35 9 5 ⟨g9, 0, none⟩ c9 (enc es) Ybaf.underlying35 Ybaf.underlying5 Ybaf.underlying9 (fun t ht => ?_)
          · rw [hz] at this; exact this
          · have := hown9.cells (g := g9) rfl t (.int .u8 ((enc es)[t]).toNat) (by
              simp [Lib.byteCells, List.getElem?_eq_getElem ht])
            exact this
        have htk : (l.drop p).take k = enc es := by
          rw [HL.out, HK.out]; exact List.take_left
        have hcB : ∀ j, (convert 35 9 (.slice (some ⟨g, o + p, none⟩) k (cap - p))).run Ybaf.prog (w9.drewN j) = .ok (.string ⟨(enc es).toArray⟩) (w9.drewN j) := by
          intro j
          have := run_convert_bytes_back (P := Ybaf.prog) (w9.drewN j) 35 9 5 ⟨g, o + p, none⟩ (cap - p) (enc es) Ybaf.underlying35 Ybaf.underlying5 Ybaf.underlying9 (fun t ht => ?_)
          · rw [hz] at this; exact this
          · have h5 := HG.out (p + t) (by omega)
            have e1 : (enc es)[t] = l[p + t]'(by omega) := by
              have : (enc es)[t]? = l[p + t]? := by rw [← htk, List.getElem?_take_of_lt (by omega), List.getElem?_drop]
              rw [List.getElem?_eq_getElem ht, List.getElem?_eq_getElem (by omega)] at this
              exact Option.some.inj this
            rw [addr_add, e1, Nat.add_assoc]
            have h6 : w9.cell? ⟨g, o + (p + t), none⟩ = wr.cell? ⟨g, o + (p + t), none⟩ := hb9.cell (by show g < _; have := hbw.size; omega)
            exact h6.trans h5
        have hp9 : ∀ j, (w9.drewN j).cell? ⟨w.heap.size, 1, none⟩ = some (.int .i64 ((p : Int) + (k : Int))) := fun j => by
          have h6 : w9.cell? ⟨w.heap.size, 1, none⟩ = wr.cell? ⟨w.heap.size, 1, none⟩ := hb9.cell (by show w.heap.size < _; omega)
          exact h6.trans hpr
        obtain ⟨z, hzz⟩ : ∃ z, z = enc es := ⟨_, rfl⟩
        rw [← hzz] at hcA hcB
        clear hzz htk hown9 hz hb9 hpr hbw hat hh hpos2 hb2
        have hpc1 : (p : Int) ≤ (p : Int) + (k : Int) := by omega
        have hpc2 : (p : Int) + (k : Int) ≤ (cap : Int) := by omega
        have hpc3 : p < cap := by omega
        have hpk : (p : Int) + (k : Int) - (p : Int) = (k : Int) := by omega
        go_upto_region 23 with fail
        go_quiet (fail)
        go_wp2
        go_ret
        exact ⟨rfl, below_drewN hbw9 _⟩

/-- A slice of bytes that came in. -/
def InBytes (w : World) (a : Option Addr) (cap : Nat) (l : List UInt8) : Prop :=
  l = [] ∨ ∃ b o, a = some ⟨b, o, none⟩ ∧ (∀ j (hj : j < l.length), w.cell? ⟨b, o + j, none⟩ = some (.int .u8 (l[j]).toNat)) ∧ l.length ≤ cap ∧ cap ≤ 9223372036854775807

theorem canon_any (F : Interp) (a : Addr) (s : ByteArray) (ao : Option Addr) (cap : Nat) (l : List UInt8) (kk : Nat) (w : World) (hE : Base F a s w.heap.size w) (hB : InBytes w ao cap l) (hm : l.length ≤ 9223372036854775807) (hk : kk < 65536) :
    Calls Ybaf.prog 6 #[.slice ao l.length cap, .int .u16 kk] w fun e w' => e = .returned (.bool true) ∧ Below w.heap.size w w' := by
  by_cases hn : l.length ≤ 4096
  · rcases hB with rfl | ⟨b, o, rfl, hc, h1, h2⟩
    · exact canon_nil F a s ao cap kk w hE hk
    · by_cases h0 : l.length = 0
      · rw [h0]; exact canon_nil F a s _ cap kk w hE hk
      · exact canon_main F a s b o cap l kk w hE hc (by omega) hn h1 h2 hk
  · exact canon_big ao l.length cap kk w (by omega) hm

end Go.Proofs.YbulkbguFmt
