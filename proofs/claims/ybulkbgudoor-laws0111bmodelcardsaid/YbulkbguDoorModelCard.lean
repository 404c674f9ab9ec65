/-
  DERIVED. THE TIED CARD OF LawS0111BModel (function 4), PROVED.
-/
import Derived.Test.YbulkbguDoorBase
namespace Go.Proofs.YbulkbguDoor
open Go.ChangeShapes Go.WideShapes Go.ChangeAt Go.RowKit

theorem model_any (a : Option Addr) (cap : Nat) (l : List UInt8) (pv : Nat) (w : World) (ht : Tab w) (hB : IsBytes w a l) (hm : l.length ≤ 9223372036854775807) (hp0 : pv < 65536) :
    Calls Ybad.prog 4 #[.slice a l.length cap, .int .u16 pv] w fun e w' => e = .returned (.bool true) ∧ Below w.heap.size w w' := by
  by_cases hn : l.length ≤ 1024
  · exact model_walk a cap l pv w ht hB hn hp0
  · exact model_big a l.length cap pv w (by omega) hm

set_option maxRecDepth 100000 in
theorem model_lifted (os : Os) (started : os.Started) (H : Type) (enc : TypeId × Value → H) :
    ReturnsInHanded {} Ybad.checked os 4 .any (fun w args => (Rows.lawS0111BModelSpec.pre enc Ybad.prog Ybad.f4 [] false w args ∧ laidMetH Ybad.prog laid3 w) ∧ sizedMet enc Ybad.prog Ybad.f4 (OpenSpec.ofChange Rows.lawS0111BModelSpec) false w args)
      (Rows.lawS0111BModelSpec.post enc Ybad.prog Ybad.f4 false true false false) := by
  refine returnsInHanded_of_change_and (C := Ybad.checked) (X := fun w _ => laidMetH Ybad.prog laid3 w) (fun _ _ _ hh h => h.of_heap hh) Ybad.own started (by kernel_rfl) Ybad.func4
    (ChangeSpec.witness_shaped (enc := enc) (C := Ybad.checked) (os := os) (X := fun w _ => laidMetH Ybad.prog laid3 w) false (World.doorLaid Ybad.prog 24 os) #[.slice none 0 0, .int .u16 0] 8 rfl (World.shaped_of_RefB (by kernel_rfl) (by kernel_rfl)) (by kernel_rfl) (by kernel_rfl) (by kernel_rfl) (door_met os _)) ?_
  intro W base args ds gs before hval0 hW _ _ hL _
  have hval : ∀ (j : Nat) t v, Ybad.f4.params[j]? = some t → args[j]? = some v → Value.okWide Ybad.prog W .any base t v := hval0
  have hW' := hW
  obtain ⟨p, q, hA0, hV, rfl, hfz, hnd⟩ := hW
  have hA : DataW.TrodAll enc Ybad.prog W 0 (fun _ => true) true Ybad.f4.params.toList args.toList ds p := hA0
  rw [Ybad.params4] at hA hval
  obtain ⟨v0, v1, d0, d1, p0, p1, rfl, rfl, rfl, h0, h1⟩ := trodAll_two hA
  obtain ⟨rfl, rfl⟩ := trodVars_none hV
  obtain ⟨a0, len0, cap0, rfl⟩ := okWide_slice Ybad.underlying22 (hval 0 22 v0 rfl rfl)
  have lt0 : ∀ x ∈ p0, x.block < W.heap.size := by obtain ⟨m, hm⟩ := h0; exact DataW.trod_lt m _ _ _ hm
  obtain ⟨l, rfl, hB, hmax⟩ := bytes_of_trod h0
  obtain ⟨x, rfl, rfl, rfl, wx⟩ := open_int Ybad.underlying32 (hval 1 32 v1 rfl rfl) h1
  clear hA0 hval0
  have hx : 0 ≤ x ∧ x ≤ 65535 := by
    have := wx
    simp [Lit.wf, IntKind.min, IntKind.max, IntKind.signed, IntKind.bits] at this
    omega
  obtain ⟨pv, rfl⟩ := Int.eq_ofNat_of_zero_le hx.1
  refine (model_any a0 cap0 l pv W (tab_of_laid hL) hB hmax (by omega)).mono ?_
  rintro e W' ⟨rfl, hb⟩
  exact ⟨_, rfl, _, _, _, [], _, [], hW', trodAll_mk1 (shut_bool Ybad.underlying4 _), (trodAll_mk2 (Below.trod Ybad.laidOut (by kernel_rfl) (of_decide_eq_true (by kernel_rfl)) h0 hb lt0) (shut_int Ybad.underlying32 wx)), rfl, hb.frame _, fun h => by cases h⟩

theorem model_row : Rows.LawS0111BModelSaid :=
  OpenClaim.holds_of_wide 4 Ybad.f4 rfl rfl rfl rfl rfl rfl rfl ⟨rfl, rfl, rfl, rfl, rfl⟩ rfl rfl rfl rfl rfl (by kernel_rfl) Ybad.func4 (by kernel_rfl)
    (of_decide_eq_true (by kernel_rfl)) (by unfold Func.isWrapper; first | (rw [if_pos (by decide +kernel)]; kernel_rfl) | (rw [if_neg (by decide +kernel)]; exact ⟨rfl, rfl⟩))
    (fun os started H enc _ => model_lifted os started H enc)

theorem model_holds : Rows.LawS0111BModelCardSaid :=
  Claim7.holds_tied_plain_at .later [] [.data, .data, .data] true _ false
    model_row (fun _ h => by cases h) (by kernel_rfl) (fun _ h => by cases h) lawS0111BModel_row_tie rfl ⟨rfl, rfl⟩ (by kernel_rfl) rfl
    (fun f fn hf hfn => by
      obtain rfl : f = 4 := Option.some.inj ((show Ybad.prog.funcNamed Rows.lawS0111BModelRow.func = some 4 by kernel_rfl).symm.trans hf) |>.symm
      obtain rfl : fn = Ybad.f4 := (Option.some.inj (Ybad.func4.symm.trans hfn)).symm
      exact ⟨by kernel_rfl, fun j t ht => by
        rw [Ybad.params4] at ht
        have h3 : t = 22 ∨ t = 32 := by
          rcases j with _ | _ | j
          · left; simpa using ht.symm
          · right; simpa using ht.symm
          · simp at ht
        rcases h3 with rfl | rfl
        · exact (show Ybad.prog.wantsStandIn 22 = false by kernel_rfl)
        · exact (show Ybad.prog.wantsStandIn 32 = false by kernel_rfl)⟩)
    (by kernel_rfl)
#print axioms model_holds

end Go.Proofs.YbulkbguDoor
