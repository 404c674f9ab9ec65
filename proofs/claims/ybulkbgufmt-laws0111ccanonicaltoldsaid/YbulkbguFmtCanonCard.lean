/-
  DERIVED. THE TOLD AND TIED CARD OF LawS0111CCanonical (function 6), PROVED.
-/
import Derived.Test.YbulkbguFmtBaseC
namespace Go.Proofs.YbulkbguFmt
open Go.ChangeShapes Go.WideShapes Go.ChangeAt Go.RowKit Go.Kit
open Go.Extern.Stop Go.Stop Go.Extern

set_option maxRecDepth 100000 in
theorem canon_lifted (os : Os) (started : os.Started) (H : Type) (enc : TypeId × Value → H) :
    ReturnsInTold none {} Ybaf.checked os 6 .any Input.okWide ((OpenSpec.ofChange Rows.lawS0111CCanonicalSpec).preRow enc Ybaf.prog Ybaf.f6 [] false laid4)
      (fun F => ((OpenSpec.ofChange Rows.lawS0111CCanonicalSpec).at F).post enc Ybaf.prog Ybaf.f6 false true false false) (aloneAtReturn Ybaf.prog) nothingAlways := by
  refine returnsInTold_of_row (C := Ybaf.checked) (s := OpenSpec.ofChange Rows.lawS0111CCanonicalSpec) (by kernel_rfl) Ybaf.own started (by kernel_rfl) Ybaf.func6
    (OpenSpec.witness_stopped_atRef (enc := enc) (C := Ybaf.checked) false (World.doorLaid Ybaf.prog 43 os) #[.slice none 0 0, .int .u16 0] rfl (by kernel_rfl) (by kernel_rfl) (by kernel_rfl)
      (OpenSpec.preRow_of_B rfl 8 (by kernel_rfl) (by kernel_rfl) (door4_met os _))) ?_
  intro F W base args ds gs before _ hF hval0 hW _ _ _ hL _
  have hval : ∀ (j : Nat) t v, Ybaf.f6.params[j]? = some t → args[j]? = some v → Value.okWide Ybaf.prog W .any base t v := hval0
  have hW' := hW
  obtain ⟨p, q, hA0, hV0, rfl, hfz, hnd⟩ := hW
  have hA : DataW.TrodAll enc Ybaf.prog W 0 (fun _ => true) true Ybaf.f6.params.toList args.toList ds p := hA0
  have hV : DataW.TrodVars enc Ybaf.prog W (fun _ => true) [gName] gs q := hV0
  rw [Ybaf.params6] at hA hval
  obtain ⟨v0, v1, d0, d1, p0, p1, rfl, rfl, rfl, h0, h1⟩ := trodAll_two hA
  obtain ⟨a0, len0, cap0, rfl⟩ := okWide_slice Ybaf.underlying35 (hval 0 35 v0 rfl rfl)
  have lt0 : ∀ x ∈ p0, x.block < W.heap.size := by obtain ⟨m, hm⟩ := h0; exact DataW.trod_lt m _ _ _ hm
  obtain ⟨l, rfl, hB, hmax⟩ := bytes_of_trod h0
  obtain ⟨x, rfl, rfl, rfl, wx⟩ := open_int Ybaf.underlying24 (hval 1 24 v1 rfl rfl) h1
  obtain ⟨a, s, hv, hc, hs, hz⟩ := sentinel_of_laid4 hL
  obtain ⟨rfl, rfl⟩ := hV.unique (vars_read1 enc Ybaf.gN Ybaf.gNType Ybaf.underlying27 hv trivial _)
  clear hA0 hV0 hval0
  have hx0 : 0 ≤ x ∧ x ≤ 65535 := by
    have := wx
    simp [Lit.wf, IntKind.min, IntKind.max, IntKind.signed, IntKind.bits] at this
    omega
  obtain ⟨kk, rfl⟩ := Int.eq_ofNat_of_zero_le hx0.1
  have hT := tab_of_laid4 hL
  have hE : Base F a s W.heap.size W := ⟨⟨hF, glob_of_var hv, hc⟩, hT, tab_lt hT, World.block_lt_of_cell? _ _ hc, Nat.le_refl _⟩
  refine (canon_any F a s a0 cap0 l kk W hE hB hmax (by omega)).mono ?_
  rintro e W' ⟨rfl, hb⟩
  have e1 : ((OpenSpec.ofChange Rows.lawS0111CCanonicalSpec).at F.told).fn H ([d0, .lit (.int .u16 (kk : Int))] ++ [tok enc (.iface 111 (.pointer (some a)))]) = { results := [.lit (.bool true)], args := [d0, .lit (.int .u16 (kk : Int))], vars := [tok enc (.iface 111 (.pointer (some a)))] } := rfl
  have hg0 : 0 < W.heap.size := World.block_lt_of_cell? _ _ hE.env.glob
  refine ⟨_, rfl, _, _, _, [], p0 ++ [], [.cell 0 0], hW', ?_, ?_, ?_, hb.frame _, fun h => by cases h⟩
  · rw [e1]; exact trodAll_mk1 (shut_bool Ybaf.underlying4 true)
  · rw [e1]; exact trodAll_mk2 (Below.trod Ybaf.laidOut (by kernel_rfl) (of_decide_eq_true (by kernel_rfl)) h0 hb lt0) (shut_int Ybaf.underlying24 wx)
  · rw [e1]; exact vars_read1 enc Ybaf.gN Ybaf.gNType Ybaf.underlying27 (var?_below hb Ybaf.gN hg0 hv) trivial _

theorem canon_holds : Rows.LawS0111CCanonicalToldSaid :=
  Claim7.holds_of_told_tied_any_at .later 6 Ybaf.f6 "fmt.errorf" ["fmt.Sprintf"] [] _ _ _ _ _ (by kernel_rfl) rfl rfl rfl Ybaf.laidOut (by kernel_rfl) rfl ⟨rfl, rfl, rfl, rfl, rfl, rfl, rfl⟩ rfl rfl (by kernel_rfl) (by kernel_rfl) Ybaf.func6 (by kernel_rfl)
    (of_decide_eq_true (by kernel_rfl)) (of_decide_eq_true (by kernel_rfl)) Ybaf.stops.symm rfl Ybaf.stopKnobs.symm (by kernel_rfl)
    (by kernel_rfl) (by kernel_rfl) (by kernel_rfl) (by kernel_rfl) (by kernel_rfl) (by kernel_rfl) (by kernel_rfl) (by kernel_rfl) (by kernel_rfl) rfl (by kernel_rfl) rfl rfl
    rfl rfl
    rfl (by kernel_rfl) (by kernel_rfl) (by kernel_rfl) (by decide) (by kernel_rfl) lawS0111CCanonical_row_tie
    (OpenClaim.moreEntering_of (by kernel_rfl) (by kernel_rfl) (by kernel_rfl) (by kernel_rfl) (by kernel_rfl) (by kernel_rfl) (by kernel_rfl) (by kernel_rfl) (by kernel_rfl) (by kernel_rfl))
    ⟨_, WideRow.started_initial, Ybaf.quiet _⟩
    (fun os started _ H enc _ => canon_lifted os started H enc)

#print axioms canon_holds

end Go.Proofs.YbulkbguFmt
