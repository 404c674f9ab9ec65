/-
  DERIVED. THE TOLD AND TIED CARD OF LawS0111CRoundTrip (function 5), PROVED.
-/
import Derived.Test.YbulkbguFmtOpens
namespace Go.Proofs.YbulkbguFmt
open Go.ChangeShapes Go.WideShapes Go.ChangeAt Go.RowKit Go.Kit
open Go.Extern.Stop Go.Stop Go.Extern

set_option maxRecDepth 100000 in
theorem rt_lifted (os : Os) (started : os.Started) (H : Type) (enc : TypeId × Value → H) :
    ReturnsInTold none {} Ybaf.checked os 5 .any Input.okWide ((OpenSpec.ofChange Rows.lawS0111CRoundTripSpec).preRow enc Ybaf.prog Ybaf.f5 [] false laid4)
      (fun F => ((OpenSpec.ofChange Rows.lawS0111CRoundTripSpec).at F).post enc Ybaf.prog Ybaf.f5 false true false false) (aloneAtReturn Ybaf.prog) nothingAlways := by
  refine returnsInTold_of_row (C := Ybaf.checked) (s := OpenSpec.ofChange Rows.lawS0111CRoundTripSpec) (by kernel_rfl) Ybaf.own started (by kernel_rfl) Ybaf.func5
    (OpenSpec.witness_stopped_atRef (enc := enc) (C := Ybaf.checked) false (World.doorLaid Ybaf.prog 43 os) #[.slice none 0 0, .slice none 0 0, .slice none 0 0] rfl (by kernel_rfl) (by kernel_rfl) (by kernel_rfl)
      (OpenSpec.preRow_of_B rfl 8 (by kernel_rfl) (by kernel_rfl) (door4_met os _))) ?_
  intro F W base args ds gs before _ hF hval0 hW _ _ _ hL _
  have hval : ∀ (j : Nat) t v, Ybaf.f5.params[j]? = some t → args[j]? = some v → Value.okWide Ybaf.prog W .any base t v := hval0
  have hW' := hW
  obtain ⟨p, q, hA0, hV0, rfl, hfz, hnd⟩ := hW
  have hA : DataW.TrodAll enc Ybaf.prog W 0 (fun _ => true) true Ybaf.f5.params.toList args.toList ds p := hA0
  have hV : DataW.TrodVars enc Ybaf.prog W (fun _ => true) [gName] gs q := hV0
  rw [Ybaf.params5] at hA hval
  obtain ⟨v0, v1, v2, d0, d1, d2, p0, p1, p2, rfl, rfl, rfl, h0, h1, h2⟩ := trodAll_three hA
  obtain ⟨a0, len0, cap0, rfl⟩ := okWide_slice Ybaf.underlying33 (hval 0 33 v0 rfl rfl)
  obtain ⟨a1, len1, cap1, rfl⟩ := okWide_slice Ybaf.underlying34 (hval 1 34 v1 rfl rfl)
  obtain ⟨a2, len2, cap2, rfl⟩ := okWide_slice Ybaf.underlying35 (hval 2 35 v2 rfl rfl)
  have lt0 : ∀ x ∈ p0, x.block < W.heap.size := by obtain ⟨m, hm⟩ := h0; exact DataW.trod_lt m _ _ _ hm
  have lt1 : ∀ x ∈ p1, x.block < W.heap.size := by obtain ⟨m, hm⟩ := h1; exact DataW.trod_lt m _ _ _ hm
  have lt2 : ∀ x ∈ p2, x.block < W.heap.size := by obtain ⟨m, hm⟩ := h2; exact DataW.trod_lt m _ _ _ hm
  obtain ⟨bi, oi, Sx, hS, hm0⟩ := strs_of_trod h0
  obtain ⟨bc, oc, Cx, hC, hm1⟩ := cnts_of_trod h1
  obtain ⟨T, rfl, hT, hm2⟩ := src_of_trod h2
  obtain ⟨a, s, hv, hc, hs, hz⟩ := sentinel_of_laid4 hL
  obtain ⟨rfl, rfl⟩ := hV.unique (vars_read1 enc Ybaf.gN Ybaf.gNType Ybaf.underlying27 hv trivial _)
  clear hA0 hV0 hval0
  have hTb := tab_of_laid4 hL
  have hE : Base F a s W.heap.size W := ⟨⟨hF, glob_of_var hv, hc⟩, hTb, tab_lt hTb, World.block_lt_of_cell? _ _ hc, Nat.le_refl _⟩
  refine (rt_any F a s a0 a1 a2 len0 len1 bi oi cap0 bc oc cap1 cap2 Sx Cx T W hE hS hC hT hm0 hm1 hm2).mono ?_
  rintro e W' ⟨rfl, hb⟩
  have e1 : ((OpenSpec.ofChange Rows.lawS0111CRoundTripSpec).at F.told).fn H ([d0, d1, d2] ++ [tok enc (.iface 111 (.pointer (some a)))]) = { results := [.lit (.bool true)], args := [d0, d1, d2], vars := [tok enc (.iface 111 (.pointer (some a)))] } := rfl
  have hg0 : 0 < W.heap.size := World.block_lt_of_cell? _ _ hE.env.glob
  refine ⟨_, rfl, _, _, _, [], p0 ++ (p1 ++ p2), [.cell 0 0], hW', ?_, ?_, ?_, hb.frame _, fun h => by cases h⟩
  · rw [e1]; exact trodAll_mk1 (shut_bool Ybaf.underlying4 true)
  · rw [e1]; exact trodAll_mk3 (Below.trod Ybaf.laidOut (by kernel_rfl) (of_decide_eq_true (by kernel_rfl)) h0 hb lt0) (Below.trod Ybaf.laidOut (by kernel_rfl) (of_decide_eq_true (by kernel_rfl)) h1 hb lt1) (Below.trod Ybaf.laidOut (by kernel_rfl) (of_decide_eq_true (by kernel_rfl)) h2 hb lt2)
  · rw [e1]; exact vars_read1 enc Ybaf.gN Ybaf.gNType Ybaf.underlying27 (var?_below hb Ybaf.gN hg0 hv) trivial _

theorem rt_holds : Rows.LawS0111CRoundTripToldSaid :=
  Claim7.holds_of_told_tied_any_at .later 5 Ybaf.f5 "fmt.errorf" ["fmt.Sprintf"] [] _ _ _ _ _ (by kernel_rfl) rfl rfl rfl Ybaf.laidOut (by kernel_rfl) rfl ⟨rfl, rfl, rfl, rfl, rfl, rfl, rfl⟩ rfl rfl (by kernel_rfl) (by kernel_rfl) Ybaf.func5 (by kernel_rfl)
    (of_decide_eq_true (by kernel_rfl)) (of_decide_eq_true (by kernel_rfl)) Ybaf.stops.symm rfl Ybaf.stopKnobs.symm (by kernel_rfl)
    (by kernel_rfl) (by kernel_rfl) (by kernel_rfl) (by kernel_rfl) (by kernel_rfl) (by kernel_rfl) (by kernel_rfl) (by kernel_rfl) (by kernel_rfl) rfl (by kernel_rfl) rfl rfl
    rfl rfl
    rfl (by kernel_rfl) (by kernel_rfl) (by kernel_rfl) (by decide) (by kernel_rfl) lawS0111CRoundTrip_row_tie
    (OpenClaim.moreEntering_of (by kernel_rfl) (by kernel_rfl) (by kernel_rfl) (by kernel_rfl) (by kernel_rfl) (by kernel_rfl) (by kernel_rfl) (by kernel_rfl) (by kernel_rfl) (by kernel_rfl))
    ⟨_, WideRow.started_initial, Ybaf.quiet _⟩
    (fun os started _ H enc _ => rt_lifted os started H enc)

#print axioms rt_holds

end Go.Proofs.YbulkbguFmt
