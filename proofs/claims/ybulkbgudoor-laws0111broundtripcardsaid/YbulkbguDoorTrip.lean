/-
  DERIVED. THE WALK: LawS0111BRoundTrip (3); 'append(data, src...)' onto a row of the call's own, src whatever slice of bytes, as one law.
-/
import Derived.Test.YbulkbguDoorEnc
import Derived.Test.YbulkbguDoorRound
import Derived.Deep.AppendLies
namespace Go.Proofs.YbulkbguDoor
open Go.RowKit

/-- A slice of bytes as the source of an append. -/
def SrcBytes (w : World) (x : Value) (l : List UInt8) : Prop :=
  (x = .slice none 0 0 ∧ l = []) ∨ ∃ ad c, x = .slice (some ad) l.length c ∧ ∀ j (hj : j < l.length), w.cell? (ad.add j) = some (.int .u8 (l[j]).toNat)

theorem SrcBytes.below {w w' : World} {x : Value} {l : List UInt8} (h : SrcBytes w x l) (hb : Below w.heap.size w w') : SrcBytes w' x l := by
  rcases h with h | ⟨ad, c, rfl, hc⟩
  · exact Or.inl h
  · refine Or.inr ⟨ad, c, rfl, fun j hj => ?_⟩
    have := hc j hj
    rw [hb.cell (World.block_lt_of_cell? _ _ this)]
    exact this

theorem wpList_append_bytes {w : World} {ops : Array Oper} {rest : List Oper} {o : Oper} {a : Act} {Q : Exit → Act → World → Prop} (hgd : o.guard = none) (s x : Operand)
    (ho : o.op = .call { callee := .builtin .append, args := #[s, x], argTypes := #[22, 22] }) (base : Nat) (v : Value) (n : Nat) (xs : List Value) (hs : a.eval s = v) (hown : w.ownsRow base 5 1 v n xs)
    (l : List UInt8) (xv : Value) (hxv : a.eval x = xv) (hx : SrcBytes w xv l) (hlim : n + l.length ≤ 140737488355328) (hbase : base ≤ w.heap.size)
    (h : ∀ v' w', w'.ownsRow base 5 1 v' (n + l.length) (xs ++ U8s l) → w.grownBy w' v.ownBlock → wpList Ybad.prog ops Q rest (a.put o.dst v') w') : wpList Ybad.prog ops Q (o :: rest) a w := by
  obtain ⟨i0, hi, hz0, hz1, hz2⟩ := info_parts Ybad.info5
  rcases hx with ⟨rfl, rfl⟩ | ⟨ad, c, rfl, hc⟩
  · refine wpList_append_own_none hgd s x 22 ho base 5 i0 1 Ybad.underlying22 hi v n xs hs hown hxv ?_
    refine h v w ?_ ⟨rfl, rfl, rfl, Nat.le_refl _, fun _ _ _ => rfl⟩
    simpa using hown
  · refine wpList_append_own w hgd s x 22 ho base 5 i0 (.int .u8 0) 1 1 Ybad.underlying22 hi hz0 hz1 hz2 rfl (by decide) v n xs hs hown ad l.length c (U8s l) hxv (by simp) ?_ ?_ (by unfold maxLen; omega) (by omega) hbase (fun v' w' h1 h2 _ => h v' w' h1 h2)
    · intro j u hj
      have hjl : j < l.length := by have := (List.getElem?_eq_some_iff.1 hj).1; simpa using this
      have hv : u = .int .u8 (l[j].toNat : Int) := by simpa [U8s, hjl] using hj.symm
      subst hv
      exact hc j hjl
    · intro u hu
      obtain ⟨y, _, rfl⟩ := List.mem_map.1 hu; rfl

theorem wpList_append_bytes_pos {w : World} {ops : Array Oper} {rest : List Oper} {o : Oper} {a : Act} {Q : Exit → Act → World → Prop} (hgd : o.guard = none) (s x : Operand)
    (ho : o.op = .call { callee := .builtin .append, args := #[s, x], argTypes := #[22, 22] }) (base : Nat) (v : Value) (n : Nat) (xs : List Value) (hs : a.eval s = v) (hown : w.ownsRow base 5 1 v n xs)
    (l : List UInt8) (xv : Value) (hxv : a.eval x = xv) (hx : SrcBytes w xv l) (hlim : n + l.length ≤ 140737488355328) (hbase : base ≤ w.heap.size) (hpos : 0 < n + l.length)
    (h : ∀ g cap w', w'.ownsRow base 5 1 (.slice (some ⟨g, 0, none⟩) (n + l.length) cap) (n + l.length) (xs ++ U8s l) → w.grownBy w' v.ownBlock → wpList Ybad.prog ops Q rest (a.put o.dst (.slice (some ⟨g, 0, none⟩) (n + l.length) cap)) w') : wpList Ybad.prog ops Q (o :: rest) a w :=
  wpList_append_bytes hgd s x ho base v n xs hs hown l xv hxv hx hlim hbase fun v' w' h1 h2 => by
    obtain ⟨g, cap, hv, _⟩ := h1.form hpos
    subst hv
    exact h g cap w' h1 h2

theorem byteCells_eq (l : List UInt8) : Lib.byteCells l = U8s l := rfl

set_option maxHeartbeats 400000 in
theorem trip_big (v0 v1 : Value) (a0 a1 : Option Addr) (n0 n1 c0 c1 : Nat) (h0 : v0 = .slice a0 n0 c0) (h1 : v1 = .slice a1 n1 c1) (v : Int) (w : World) (hn : 1024 < n0 ∨ 1024 < n1) (hm0 : n0 ≤ 9223372036854775807) (hm1 : n1 ≤ 9223372036854775807) :
    Calls Ybad.prog 3 #[v0, v1, .int .i64 v] w fun e w' => e = .returned (.bool true) ∧ Below w.heap.size w w' := by
  subst h0 h1
  by_cases h : 1024 < n0
  · have hd : decide ((1024 : Int) < (n0 : Int)) = true := by simp; omega
    go_enter Ybad.func3, Ybad.ntmps3
    go_wp2
    go_ret
    exact ⟨rfl, Below.refl _ _⟩
  · have hd : decide ((1024 : Int) < (n0 : Int)) = false := by simp; omega
    have hd1 : decide ((1024 : Int) < (n1 : Int)) = true := by simp; omega
    go_enter Ybad.func3, Ybad.ntmps3
    go_wp2
    go_ret
    exact ⟨rfl, Below.refl _ _⟩

set_option maxHeartbeats 1000000 in
theorem trip_walk (v0 v1 : Value) (a0 a1 : Option Addr) (c0 c1 : Nat) (l0 l1 : List UInt8) (h0 : v0 = .slice a0 l0.length c0) (h1 : v1 = .slice a1 l1.length c1) (v : Int) (hv0 : -9223372036854775808 ≤ v) (hv1 : v ≤ 9223372036854775807)
    (w : World) (hS0 : SrcBytes w v0 l0) (hS1 : SrcBytes w v1 l1) (hn0 : l0.length ≤ 1024) (hn1 : l1.length ≤ 1024) :
    Calls Ybad.prog 3 #[v0, v1, .int .i64 v] w fun e w' => e = .returned (.bool true) ∧ Below w.heap.size w w' := by
  subst h0 h1
  obtain ⟨i0, hi, hz0, hz1, hz2⟩ := info_parts Ybad.info5
  have hd : decide ((1024 : Int) < (l0.length : Int)) = false := by simp; omega
  have hd1 : decide ((1024 : Int) < (l1.length : Int)) = false := by simp; omega
  go_enter Ybad.func3, Ybad.ntmps3
  go_wp2_with (first
    | (at_make; refine wpList_make_own _ rfl _ _ 22 rfl w.heap.size 5 i0 (.int .u8 0) 1 Ybad.underlying22 hi hz0 hz1 .i64 .i64 _ (l0.length + l1.length + 10) rfl rfl (by first | omega | (simp; omega)) (by rw [hz2]; omega) (by unfold maxLen; omega) (Nat.le_refl _) ?_; intro w1 hown1 hgrow1)
    | (at_builtin; refine wpList_append_bytes rfl (.tmp 27) (.tmp 28) rfl w.heap.size _ 0 [] rfl hown1 l0 _ rfl ?hS (by omega) ?hb ?_; rotate_left 2; intro v2 w2 hown2 hgrow2))
  case hS => exact hS0.below ((Below.refl _ _).grown hgrow1 (Nat.le_refl _) (fun k hk => by cases hk))
  case hb => exact hgrow1.size
  have hb1 : Below w.heap.size w w1 := (Below.refl _ _).grown hgrow1 (Nat.le_refl _) (fun k hk => by cases hk)
  have hb2 : Below w.heap.size w w2 := hb1.grown hgrow2 hb1.size (fun k hk => (hown1.lt k hk).1)
  rw [Nat.zero_add, List.nil_append] at hown2
  refine (enc_walk w.heap.size l0.length v hv0 hv1 v2 (U8s l0) w2 hown2 hb2.size (by omega)).mono ?_
  rintro e w3 ⟨v3, rfl, hown3, hb3⟩
  have hb3' : Below w.heap.size w w3 := hb2.trans hb3
  obtain ⟨L, hL⟩ : ∃ L : List UInt8, Lib.uvarint (Lib.zigzag v) = L := ⟨_, rfl⟩
  have hrd : rd (L ++ l1) = some (Lib.zigzag v, L.length) := by rw [← hL]; exact rd_uvarint _ (Lib.zigzag_lt hv0 hv1) l1
  have hLp : 0 < L.length := by rw [← hL]; exact uvarint_pos _
  have hLl : L.length ≤ 10 := by rw [← hL]; exact Lib.uvarint_length64 (Lib.zigzag_lt hv0 hv1)
  have HU : Hid (Lib.unzigzag (Lib.zigzag v) = v) := unzig_zig v
  rw [hL, byteCells_eq] at hown3
  clear hL hown1 hown2
  have hex : ∃ g cap, v3 = .slice (some ⟨g, 0, none⟩) (l0.length + L.length) cap := by
    rcases hown3.2 with ⟨_, h0⟩ | ⟨g, cap, _, hv, _⟩
    · omega
    · exact ⟨g, cap, hv⟩
  obtain ⟨g3, cap3, rfl⟩ := hex
  go_wp2_with (at_builtin; refine wpList_append_bytes_pos rfl (.tmp 35) (.tmp 36) rfl w.heap.size _ (l0.length + L.length) _ rfl hown3 l1 _ rfl ?hS (by omega) ?hb (by omega) ?_; rotate_left 2; intro g4 cap4 w4 hown4 hgrow4)
  case hS => exact hS1.below hb3'
  case hb => exact hb3'.size
  have hb4 : Below w.heap.size w w4 := hb3'.grown hgrow4 hb3'.size (fun k hk => (hown3.lt k hk).1)
  obtain ⟨D, hD⟩ : ∃ D : List UInt8, D = l0 ++ L ++ l1 := ⟨_, rfl⟩
  have hDl : D.length = l0.length + L.length + l1.length := by rw [hD]; simp; omega
  have hcs : U8s l0 ++ U8s L ++ U8s l1 = U8s D := by rw [hD]; simp [U8s]
  rw [hcs, ← hDl] at hown4
  have hdrop : D.drop l0.length = L ++ l1 := by rw [hD, List.append_assoc, List.drop_left]
  obtain ⟨O, hO⟩ : ∃ O : Obj, O = .cells #[.slice (some ⟨g4, 0, none⟩) D.length cap4, .int .i64 (l0.length : Int)] 26 := ⟨_, rfl⟩
  have hcap : D.length ≤ cap4 ∧ cap4 ≤ 9223372036854775807 := by
    rcases hown4.2 with ⟨h0, _⟩ | ⟨g, cap, cur, hv, _, _, h1, h2, _⟩
    · cases h0
    · cases hv
      unfold maxLen at h2
      omega
  have hR : Reads w4.heap.size 0 g4 0 cap4 D l0.length (w4.alloc O) := by
    subst hO
    refine ⟨by go_simp, by go_simp, by go_simp, fun j hj => ?_, by omega, hcap.1, hcap.2⟩
    have := hown4.cells (g := g4) rfl j (.int .u8 (D[j].toNat : Int)) (by simp [U8s, hj])
    rw [Addr.add_lit] at this
    exact cell?_alloc_old _ this
  have hb5 : Below w.heap.size w (w4.alloc O) := hb4.alloc hb4.size _
  have hpos := hR.pos
  have hlt := hb4.size
  rw [← hDl, ← hO]
  refine (int_ok _ 0 _ 0 _ D l0.length (Lib.zigzag v) L.length _ hR (by rw [hdrop]; exact hrd)).mono ?_
  rintro e w6 ⟨rfl, nq, rfl⟩
  rw [HU.out]
  have hpos2 : ((w4.alloc O).setCell ⟨w4.heap.size, 0 + 1, none⟩ (.int .i64 ((l0.length + L.length : Nat) : Int))).cell? ⟨w4.heap.size, 1, none⟩ = some (.int .i64 ((l0.length : Int) + (L.length : Int))) := by
    rw [World.cell?_setCell_same _ _ _ hpos]
    simp
  have hb6 : Below w.heap.size w (((w4.alloc O).setCell ⟨w4.heap.size, 0 + 1, none⟩ (.int .i64 ((l0.length + L.length : Nat) : Int))).drewN nq) :=
    below_drewN (hb5.setCell (by simp; omega) _) _
  clear hO hown4 hown3 hD hcs hdrop
  go_wp2
  go_ret
  exact ⟨rfl, hb6⟩

end Go.Proofs.YbulkbguDoor
