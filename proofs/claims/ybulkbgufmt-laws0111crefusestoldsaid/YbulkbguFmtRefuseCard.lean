/-
  DERIVED. THE TOLD AND TIED CARD OF LawS0111CRefuses (function 7), PROVED.
-/
import Derived.Test.YbulkbguFmtOpens
import Derived.Test.YbulkbguFmtRefuse
import Derived.Carry
namespace Go.Proofs.YbulkbguFmt
open Go.ChangeShapes Go.WideShapes Go.ChangeAt Go.RowKit Go.Kit
open Go.Extern.Stop Go.Stop Go.Extern

set_option maxRecDepth 100000 in
theorem rf_lifted (os : Os) (started : os.Started) (H : Type) (enc : TypeId × Value → H) :
    ReturnsInTold none {} Ybaf.checked os 7 .any Input.okWide ((OpenSpec.ofChange Rows.lawS0111CRefusesSpec).preRow enc Ybaf.prog Ybaf.f7 [] false laid4)
      (fun F => ((OpenSpec.ofChange Rows.lawS0111CRefusesSpec).at F).post enc Ybaf.prog Ybaf.f7 false true false false) (aloneAtReturn Ybaf.prog) nothingAlways := by
  refine returnsInTold_of_row (C := Ybaf.checked) (s := OpenSpec.ofChange Rows.lawS0111CRefusesSpec) (by kernel_rfl) Ybaf.own started (by kernel_rfl) Ybaf.func7
    (OpenSpec.witness_stopped_atRef (enc := enc) (C := Ybaf.checked) false (World.doorLaid Ybaf.prog 43 os) #[.slice none 0 0, .slice none 0 0, .int .u8 0, .int .u8 0] rfl (by kernel_rfl) (by kernel_rfl) (by kernel_rfl)
      (OpenSpec.preRow_of_B rfl 8 (by kernel_rfl) (by kernel_rfl) (door4_met os _))) ?_
  intro F W base args ds gs before _ hF hval0 hW _ _ _ hL _
  have hval : ∀ (j : Nat) t v, Ybaf.f7.params[j]? = some t → args[j]? = some v → Value.okWide Ybaf.prog W .any base t v := hval0
  have hW' := hW
  obtain ⟨p, q, hA0, hV0, rfl, hfz, hnd⟩ := hW
  have hA : DataW.TrodAll enc Ybaf.prog W 0 (fun _ => true) true Ybaf.f7.params.toList args.toList ds p := hA0
  have hV : DataW.TrodVars enc Ybaf.prog W (fun _ => true) [gName] gs q := hV0
  rw [Ybaf.params7] at hA hval
  obtain ⟨v0, v1, v2, v3, d0, d1, d2, d3, p0, p1, p2, p3, rfl, rfl, rfl, h0, h1, h2, h3⟩ := trodAll_four hA
  obtain ⟨a0, len0, cap0, rfl⟩ := okWide_slice Ybaf.underlying33 (hval 0 33 v0 rfl rfl)
  obtain ⟨a1, len1, cap1, rfl⟩ := okWide_slice Ybaf.underlying34 (hval 1 34 v1 rfl rfl)
  have lt0 : ∀ x ∈ p0, x.block < W.heap.size := by obtain ⟨m, hm⟩ := h0; exact DataW.trod_lt m _ _ _ hm
  have lt1 : ∀ x ∈ p1, x.block < W.heap.size := by obtain ⟨m, hm⟩ := h1; exact DataW.trod_lt m _ _ _ hm
  obtain ⟨bi, oi, Sx, hS, hm0⟩ := strs_of_trod h0
  obtain ⟨bc, oc, Cx, hC, hm1⟩ := cnts_of_trod h1
  obtain ⟨x, rfl, rfl, rfl, wx⟩ := open_int Ybaf.underlying5 (hval 2 5 v2 rfl rfl) h2
  obtain ⟨y, rfl, rfl, rfl, wy⟩ := open_int Ybaf.underlying5 (hval 3 5 v3 rfl rfl) h3
  obtain ⟨a, s, hv, hc, hs, hz⟩ := sentinel_of_laid4 hL
  obtain ⟨rfl, rfl⟩ := hV.unique (vars_read1 enc Ybaf.gN Ybaf.gNType Ybaf.underlying27 hv trivial _)
  clear hA0 hV0 hval0
  have hx0 : 0 ≤ x ∧ x ≤ 255 := by
    have := wx
    simp [Lit.wf, IntKind.min, IntKind.max, IntKind.signed, IntKind.bits] at this
    omega
  have hy0 : 0 ≤ y ∧ y ≤ 255 := by
    have := wy
    simp [Lit.wf, IntKind.min, IntKind.max, IntKind.signed, IntKind.bits] at this
    omega
  obtain ⟨kx, rfl⟩ := Int.eq_ofNat_of_zero_le hx0.1
  obtain ⟨ky, rfl⟩ := Int.eq_ofNat_of_zero_le hy0.1
  have hTb := tab_of_laid4 hL
  have hE : Base F a s W.heap.size W := ⟨⟨hF, glob_of_var hv, hc⟩, hTb, tab_lt hTb, World.block_lt_of_cell? _ _ hc, Nat.le_refl _⟩
  refine (rf_any F a s a0 a1 len0 len1 bi oi cap0 bc oc cap1 kx ky Sx Cx W hE hS hC hm0 hm1 (by omega) (by omega)).mono ?_
  rintro e W' ⟨rfl, hb⟩
  have e1 : ((OpenSpec.ofChange Rows.lawS0111CRefusesSpec).at F.told).fn H ([d0, d1, .lit (.int .u8 (kx : Int)), .lit (.int .u8 (ky : Int))] ++ [tok enc (.iface 111 (.pointer (some a)))]) = { results := [.lit (.bool true)], args := [d0, d1, .lit (.int .u8 (kx : Int)), .lit (.int .u8 (ky : Int))], vars := [tok enc (.iface 111 (.pointer (some a)))] } := rfl
  have hg0 : 0 < W.heap.size := World.block_lt_of_cell? _ _ hE.env.glob
  refine ⟨_, rfl, _, _, _, [], p0 ++ (p1 ++ ([] ++ [])), [.cell 0 0], hW', ?_, ?c2, ?_, hb.frame _, fun h => by cases h⟩
  case c2 => rw [e1]; exact trodAll_mk4 (Below.trod Ybaf.laidOut (by kernel_rfl) (of_decide_eq_true (by kernel_rfl)) h0 hb lt0) (Below.trod Ybaf.laidOut (by kernel_rfl) (of_decide_eq_true (by kernel_rfl)) h1 hb lt1) (shut_int Ybaf.underlying5 wx) (shut_int Ybaf.underlying5 wy)
  · rw [e1]; exact trodAll_mk1 (shut_bool Ybaf.underlying4 true)
  · rw [e1]; exact vars_read1 enc Ybaf.gN Ybaf.gNType Ybaf.underlying27 (var?_below hb Ybaf.gN hg0 hv) trivial _

theorem rf_holds : Rows.LawS0111CRefusesToldSaid :=
  Claim7.holds_of_told_tied_any_at .later 7 Ybaf.f7 "fmt.errorf" ["fmt.Sprintf"] [] _ _ _ _ _ (by kernel_rfl) rfl rfl rfl Ybaf.laidOut (by kernel_rfl) rfl ⟨rfl, rfl, rfl, rfl, rfl, rfl, rfl⟩ rfl rfl (by kernel_rfl) (by kernel_rfl) Ybaf.func7 (by kernel_rfl)
    (of_decide_eq_true (by kernel_rfl)) (of_decide_eq_true (by kernel_rfl)) Ybaf.stops.symm rfl Ybaf.stopKnobs.symm (by kernel_rfl)
    (by kernel_rfl) (by kernel_rfl) (by kernel_rfl) (by kernel_rfl) (by kernel_rfl) (by kernel_rfl) (by kernel_rfl) (by kernel_rfl) (by kernel_rfl) rfl (by kernel_rfl) rfl rfl
    rfl rfl
    rfl (by kernel_rfl) (by kernel_rfl) (by kernel_rfl) (by decide) (by kernel_rfl) lawS0111CRefuses_row_tie
    (OpenClaim.moreEntering_of (by kernel_rfl) (by kernel_rfl) (by kernel_rfl) (by kernel_rfl) (by kernel_rfl) (by kernel_rfl) (by kernel_rfl) (by kernel_rfl) (by kernel_rfl) (by kernel_rfl))
    ⟨_, WideRow.started_initial, Ybaf.quiet _⟩
    (fun os started _ H enc _ => rf_lifted os started H enc)

#print axioms rf_holds

end Go.Proofs.YbulkbguFmt
