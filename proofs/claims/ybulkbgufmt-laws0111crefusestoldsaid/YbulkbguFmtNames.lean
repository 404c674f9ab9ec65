/-
  DERIVED. PLAIN MATHEMATICS: the names sorted and compacted climb strictly; entries out of names and counters ('mkE'). No Go in sight.
-/
import Derived.Test.YbulkbguFmtDec
import Derived.Lib.SlicesCompact
namespace Go.Proofs.YbulkbguFmt
open Go.Lib

theorem climbs (d : Array (List UInt8)) (hd : ∀ i j, i ≤ j → j < d.size → d[i]! ≤ d[j]!) : ∀ m, m ≤ d.size →
    List.Pairwise (· < ·) (compactUpTo d m) ∧ (∀ x ∈ compactUpTo d m, 0 < m ∧ x ≤ d[m - 1]!) ∧ (∀ x ∈ compactUpTo d m, ∃ j, j < m ∧ x = d[j]!)
  | 0, _ => by simp [compactUpTo]
  | m + 1, hm => by
    obtain ⟨h1, h2, h3⟩ := climbs d hd m (by omega)
    rw [compactUpTo_succ]
    by_cases hk : keeps d m = true
    · rw [if_pos hk]
      have hlt : ∀ x ∈ compactUpTo d m, x < d[m]! := by
        intro x hx
        obtain ⟨h0, hle⟩ := h2 x hx
        have hne : d[m]! ≠ d[m - 1]! := by
          simp [keeps] at hk
          rcases hk with h | h
          · omega
          · simpa using h
        have hle2 := hd (m - 1) m (by omega) (by omega)
        have hlt2 : d[m - 1]! < d[m]! := by
          by_cases h : d[m - 1]! < d[m]!
          · exact h
          · exact absurd (List.le_antisymm hle2 (List.not_lt.1 h)).symm hne
        exact List.lt_of_le_of_lt hle hlt2
      refine ⟨List.pairwise_append.2 ⟨h1, List.pairwise_singleton _ _, fun x hx y hy => ?_⟩, ?_, ?_⟩
      · rw [List.mem_singleton.1 hy]; exact hlt x hx
      · intro x hx
        refine ⟨by omega, ?_⟩
        rcases List.mem_append.1 hx with hx | hx
        · exact List.le_of_lt (hlt x hx)
        · rw [List.mem_singleton.1 hx]; exact List.le_refl _
      · intro x hx
        rcases List.mem_append.1 hx with hx | hx
        · obtain ⟨j, hj, he⟩ := h3 x hx; exact ⟨j, by omega, he⟩
        · exact ⟨m, by omega, List.mem_singleton.1 hx⟩
    · rw [if_neg hk, List.append_nil]
      refine ⟨h1, fun x hx => ⟨by omega, ?_⟩, fun x hx => ?_⟩
      · obtain ⟨h0, hle⟩ := h2 x hx
        exact List.le_trans hle (hd (m - 1) m (by omega) (by omega))
      · obtain ⟨j, hj, he⟩ := h3 x hx; exact ⟨j, by omega, he⟩

theorem compact_sorted (zs : List (List UInt8)) (hs : zs.Pairwise (· ≤ ·)) : List.Pairwise (· < ·) (compact zs) ∧ ∀ x ∈ compact zs, x ∈ zs := by
  have hd : ∀ i j, i ≤ j → j < zs.toArray.size → zs.toArray[i]! ≤ zs.toArray[j]! := by
    intro i j hij hj
    have hj' : j < zs.length := by simpa using hj
    by_cases he : i = j
    · rw [he]; exact List.le_refl _
    · have := List.pairwise_iff_getElem.1 hs i j (by omega) hj' (by omega)
      simpa [hj', show i < zs.length by omega] using this
  obtain ⟨h1, _, h3⟩ := climbs zs.toArray hd zs.length (by simp)
  refine ⟨h1, fun x hx => ?_⟩
  obtain ⟨j, hj, he⟩ := h3 x hx
  rw [he]
  simp [hj]

theorem merge_sorted (ss : List (List UInt8)) : (ss.mergeSort fun x y => decide (x ≤ y)).Pairwise (· ≤ ·) := by
  have := List.pairwise_mergeSort (le := fun x y : List UInt8 => decide (x ≤ y)) (fun a b c h1 h2 => by
    simp only [decide_eq_true_eq] at *; exact List.le_trans h1 h2) (fun a b => by
    simp only [Bool.or_eq_true, decide_eq_true_eq]; exact List.le_total a b) ss
  exact this.imp (by intro a b h; simpa using h)

/-- THE NAMES AS slices.Sort, slices.Compact LEAVE THEM. -/
theorem names_law (ss : List (List UInt8)) : List.Pairwise (· < ·) (compact (ss.mergeSort fun x y => decide (x ≤ y))) ∧ ∀ x ∈ compact (ss.mergeSort fun x y => decide (x ≤ y)), x ∈ ss := by
  obtain ⟨h1, h2⟩ := compact_sorted _ (merge_sorted ss)
  exact ⟨h1, fun x hx => by have := h2 x hx; simpa using this⟩

theorem valid_of : ∀ (es : List Ent) (prev : Option (List UInt8)), List.Pairwise (· < ·) (es.map (·.1)) → (∀ e ∈ es, EntOk e) → (∀ e ∈ es, above prev e.1 = true) → Valid prev es
  | [], _, _, _, _ => trivial
  | e :: es, prev, hp, hok, ha => by
    rw [List.map_cons, List.pairwise_cons] at hp
    refine ⟨ha e (by simp), hok e (by simp), valid_of es (some e.1) hp.2 (fun x hx => hok x (by simp [hx])) (fun x hx => ?_)⟩
    simp only [above, decide_eq_true_eq]
    exact hp.1 _ (List.mem_map.2 ⟨x, hx, rfl⟩)

end Go.Proofs.YbulkbguFmt
