/-
  DERIVED. SMALL LAWS FOR THE ROUND TRIP AND THE REFUSALS: an append of bytes; names and counters, entry by entry.
-/
import Derived.Test.YbulkbguFmtNodes
import Derived.Test.YbulkbguFmtCanon
import Derived.Laws.AppendOwnNone
import Derived.Deep.AppendLies
namespace Go.Proofs.YbulkbguFmt
open Go.RowKit Go.Extern.Stop Go.Stop Go.Extern

/-- A slice of bytes as the source of an append. -/
def SrcBytes (w : World) (x : Value) (l : List UInt8) : Prop :=
  (x = .slice none 0 0 ∧ l = []) ∨ ∃ ad c, x = .slice (some ad) l.length c ∧ ∀ j (hj : j < l.length), w.cell? (ad.add j) = some (.int .u8 (l[j]).toNat)

theorem SrcBytes.below {w w' : World} {x : Value} {l : List UInt8} (h : SrcBytes w x l) (hb : Below w.heap.size w w') : SrcBytes w' x l := by
  rcases h with h | ⟨ad, c, rfl, hc⟩
  · exact Or.inl h
  · refine Or.inr ⟨ad, c, rfl, fun j hj => ?_⟩
    have := hc j hj
    rw [hb.cell (World.block_lt_of_cell? _ _ this)]
    exact this

theorem wpList_append_bytes {w : World} {ops : Array Oper} {rest : List Oper} {o : Oper} {a : Act} {Q : Exit → Act → World → Prop} (hgd : o.guard = none) (s x : Operand)
    (ho : o.op = .call { callee := .builtin .append, args := #[s, x], argTypes := #[35, 35] }) (base : Nat) (v : Value) (n : Nat) (xs : List Value) (hs : a.eval s = v) (hown : w.ownsRow base 5 1 v n xs)
    (l : List UInt8) (xv : Value) (hxv : a.eval x = xv) (hx : SrcBytes w xv l) (hlim : n + l.length ≤ 140737488355328) (hbase : base ≤ w.heap.size) (hpos : 0 < n + l.length)
    (h : ∀ g cap w', w'.ownsRow base 5 1 (.slice (some ⟨g, 0, none⟩) (n + l.length) cap) (n + l.length) (xs ++ Lib.byteCells l) → w.grownBy w' v.ownBlock → wpList Ybaf.prog ops Q rest (a.put o.dst (.slice (some ⟨g, 0, none⟩) (n + l.length) cap)) w') : wpList Ybaf.prog ops Q (o :: rest) a w := by
  obtain ⟨i0, hi, hz0, hz1, hz2⟩ := info_parts Ybaf.info5
  have h' : ∀ v' w', w'.ownsRow base 5 1 v' (n + l.length) (xs ++ Lib.byteCells l) → w.grownBy w' v.ownBlock → wpList Ybaf.prog ops Q rest (a.put o.dst v') w' := by
    intro v' w' h1 h2
    obtain ⟨g, cap, hv, _⟩ := h1.form hpos
    subst hv
    exact h g cap w' h1 h2
  rcases hx with ⟨rfl, rfl⟩ | ⟨ad, c, rfl, hc⟩
  · refine wpList_append_own_none hgd s x 35 ho base 5 i0 1 Ybaf.underlying35 hi v n xs hs hown hxv ?_
    refine h' v w ?_ ⟨rfl, rfl, rfl, Nat.le_refl _, fun _ _ _ => rfl⟩
    simpa [Lib.byteCells] using hown
  · refine wpList_append_own w hgd s x 35 ho base 5 i0 (.int .u8 0) 1 1 Ybaf.underlying35 hi hz0 hz1 hz2 rfl (by decide) v n xs hs hown ad l.length c (Lib.byteCells l) hxv (by simp [Lib.byteCells]) ?_ ?_ (by unfold maxLen; omega) (by omega) hbase (fun v' w' h1 h2 _ => h' v' w' h1 h2)
    · intro j u hj
      have hjl : j < l.length := by have := (List.getElem?_eq_some_iff.1 hj).1; simpa [Lib.byteCells] using this
      have hv : u = .int .u8 (l[j].toNat : Int) := by simpa [Lib.byteCells, hjl] using hj.symm
      subst hv
      exact hc j hjl
    · intro u hu
      obtain ⟨y, _, rfl⟩ := List.mem_map.1 hu; rfl

theorem own_shape {w : World} {base e N : Nat} {v : Value} {xs : List Value} (h : w.ownsRow base e 1 v N xs) :
    ∃ (an : Option Addr) (gN cn : Nat), v = .slice an N cn ∧ (0 < N → an = some ⟨gN, 0, none⟩ ∧ base ≤ gN ∧ gN < w.heap.size) ∧ ∀ j u, xs[j]? = some u → w.cell? ⟨gN, j, none⟩ = some u := by
  have hlt := h.lt
  have hl : xs.length = N := by simpa using h.1
  rcases h.2 with ⟨rfl, h0⟩ | ⟨g, c, cur, rfl, hb, _⟩
  · refine ⟨none, 0, 0, by rw [h0], fun hh => absurd hh (by omega), fun j u hj => ?_⟩
    have : xs = [] := List.eq_nil_of_length_eq_zero (by omega)
    rw [this] at hj; simp at hj
  · refine ⟨_, g, c, rfl, fun _ => ⟨rfl, hb, (hlt g rfl).2⟩, fun j u hj => ?_⟩
    have := h.cells (g := g) rfl j u hj
    rw [addr_add, Nat.zero_add] at this
    exact this

theorem encE_le : ∀ es : List Ent, (∀ e ∈ es, e.1.length ≤ 255 ∧ e.2 < 18446744073709551616) → (encE es).length ≤ es.length * 275
  | [], _ => by simp [encE]
  | e :: es, h => by
    have h1 := encE_le es (fun x hx => h x (by simp [hx]))
    obtain ⟨h2, h3⟩ := h e (by simp)
    have h4 := Lib.uvarint_length64 h3
    have h5 := Lib.uvarint_length64 (x := e.1.length) (by omega)
    simp [encE, enc1]
    omega
theorem enc_le (es : List Ent) (h : ∀ e ∈ es, e.1.length ≤ 255 ∧ e.2 < 18446744073709551616) (hl : es.length ≤ 1025) : (enc es).length ≤ 300000 := by
  have h1 := encE_le es h
  have h2 := Lib.uvarint_length64 (x := es.length) (by omega)
  simp [enc]
  omega

/-- Names and counters, entry by entry. -/
theorem zip_facts {ns : List (List UInt8)} {ks : List Nat} (hl : ks.length = ns.length) (hn : Names ns) (hk : ∀ c ∈ ks, c < 18446744073709551616) :
    (ns.zip ks).length = ns.length ∧ (∀ i (h : i < (ns.zip ks).length), ns[i]? = some ((ns.zip ks)[i]).1 ∧ ks[i]? = some ((ns.zip ks)[i]).2) ∧ (∀ e ∈ ns.zip ks, 1 ≤ e.1.length ∧ e.1.length ≤ 255 ∧ e.2 < 18446744073709551616) ∧ (ns.zip ks).map (·.1) = ns := by
  refine ⟨by simp [hl], fun i h => ?_, fun e he => ?_, ?_⟩
  · have h1 : i < ns.length := by simp [hl] at h; exact h
    simp [List.getElem_zip, List.getElem?_eq_getElem h1, List.getElem?_eq_getElem (show i < ks.length by omega)]
  · obtain ⟨x, c⟩ := e
    have := List.of_mem_zip he
    exact ⟨(hn.2 x this.1).1, (hn.2 x this.1).2, hk c this.2⟩
  · exact List.map_fst_zip (by omega)

theorem zip_valid {ns : List (List UInt8)} {ks : List Nat} (hl : ks.length = ns.length) (hn : Names ns) (hk : ∀ c ∈ ks, c ≠ 0 ∧ c < 18446744073709551616) : Valid none (ns.zip ks) := by
  obtain ⟨_, _, h3, h4⟩ := zip_facts hl hn (fun c hc => (hk c hc).2)
  refine valid_of _ none (by rw [h4]; exact hn.1) (fun e he => ?_) (fun _ _ => rfl)
  have h5 := h3 e he
  exact ⟨h5.1, h5.2.1, (hk _ (List.of_mem_zip he).2).1, h5.2.2⟩

end Go.Proofs.YbulkbguFmt
