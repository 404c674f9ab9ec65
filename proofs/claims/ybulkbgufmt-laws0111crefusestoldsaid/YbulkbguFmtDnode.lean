/-
  DERIVED. THE WALK: (*decoder).node (32).
-/
import Derived.Test.YbulkbguFmtTake
namespace Go.Proofs.YbulkbguFmt
open Go.RowKit Go.Extern.Stop Go.Stop Go.Extern

set_option maxHeartbeats 800000 in
theorem dnode_ok (r ro g o cap : Nat) (l : List UInt8) (p n k : Nat) (w : World) (hR : Reads r ro g o cap l p w) (hg : g ≠ r) (h : rd (l.drop p) = some (n, k)) (h1 : 1 ≤ n) (h2 : n ≤ 255) (hn : n ≤ l.length - (p + k)) :
    Calls Ybaf.prog 32 #[.pointer (some ⟨r, ro, none⟩)] w fun e w' => e = .returned (.tuple #[.slice (some ⟨g, o + (p + k), none⟩) n (cap - (p + k)), .nilIface]) ∧ Moved r ro (p + k + n) w w' := by
  have hc := hR.pos
  have hle := hR.le
  have hbig := hR.big
  have hfit := hR.fits
  obtain ⟨_, _, hk1, hk10, hkl, _, _⟩ := rd_some h
  rw [List.length_drop] at hkl
  go_enter Ybaf.func32, Ybaf.ntmps32
  go_wp2_with (go_at_call 34; refine (uvM_ok r ro g o cap l p n k _ hR h).mono ?_; rintro e w1 ⟨rfl, hm⟩)
  refine (at_ok p n _ (by omega) (by omega)).mono ?_
  rintro e w2 ⟨rfl, rfl⟩
  have hR2 := hR.moved hm hg (by omega)
  go_wp2_with (go_at_call 45; refine (take_ok r ro g o cap l (p + k) p n _ hR2 h1 hn).mono ?_; rintro e w3 ⟨rfl, hm3⟩)
  go_ret2
  exact ⟨rfl, hm.trans hm3⟩

set_option maxHeartbeats 800000 in
theorem dnode_no (F : Interp) (a : Addr) (s : ByteArray) (B r ro g o cap : Nat) (l : List UInt8) (p : Nat) (w : World) (hE : Base F a s B w) (hB : B ≤ r) (hR : Reads r ro g o cap l p w) (hg : g ≠ r)
    (h : ∀ n k, rd (l.drop p) = some (n, k) → ¬ (1 ≤ n ∧ n ≤ 255 ∧ n ≤ l.length - (p + k))) :
    Calls Ybaf.prog 32 #[.pointer (some ⟨r, ro, none⟩)] w (ErrK r tupS w) := by
  have hc := hR.pos
  have hle := hR.le
  have hbig := hR.big
  have hfit := hR.fits
  cases hr : rd (l.drop p) with
  | none =>
    go_enter Ybaf.func32, Ybaf.ntmps32
    go_wp2_with (go_at_call 34; refine (uv_err r ro g o cap l p _ hE.tab hR hr).mono ?_; rintro e w1 ⟨b, rfl, hb⟩)
    go_ret2
    exact ⟨111, b, Or.inl rfl, rfl, Kept.of_below hb⟩
  | some x =>
    obtain ⟨n, k⟩ := x
    obtain ⟨_, _, hk1, hk10, hkl, hn64, _⟩ := rd_some hr
    rw [List.length_drop] at hkl
    have hbad := h n k hr
    clear h
    by_cases hlen : 1 ≤ n ∧ n ≤ 255
    · have hn : l.length - (p + k) < n := by omega
      clear hbad
      go_enter Ybaf.func32, Ybaf.ntmps32
      go_wp2_with (go_at_call 34; refine (uvM_ok r ro g o cap l p n k _ hR hr).mono ?_; rintro e w1 ⟨rfl, hm⟩)
      refine (at_ok p n _ (by omega) (by omega)).mono ?_
      rintro e w2 ⟨rfl, rfl⟩
      have hR2 := hR.moved hm hg (by omega)
      have hE2 := hE.below (hm.below hB)
      go_wp2_with (go_at_call 45; refine (take_no F a s B r ro g o cap l (p + k) p n _ hE2 hR2 hn hn64 (by omega)).mono ?_; rintro e w3 ⟨u, b, hu, rfl, hb⟩)
      go_ret2
      exact ⟨u, b, hu, rfl, hm.kept.trans hb⟩
    · have hn0 : (n : Int) = 0 ∨ 255 < (n : Int) := by omega
      clear hbad
      go_enter Ybaf.func32, Ybaf.ntmps32
      go_wp2_with (go_at_call 34; refine (uvM_ok r ro g o cap l p n k _ hR hr).mono ?_; rintro e w1 ⟨rfl, hm⟩)
      have hE2 := hE.below (hm.below hB)
      refine (at_bad F.told a s p n _ hE2.env (by omega) hn0).mono ?_
      rintro e w2 ⟨b, c, rfl, hb, hlt, hlc, hv, hu⟩
      go_wp2
      go_ret2
      exact ⟨88, b, Or.inr rfl, rfl, hm.kept.trans (Kept.of_below hb)⟩

end Go.Proofs.YbulkbguFmt
