/-
  DERIVED. THE TIED CARD OF LawS0123BArrive (function 3), PROVED.
-/
import Derived.Test.YbulkbngDoorBase
namespace Go.Proofs.YbulkbngDoor
open Go.ChangeShapes Go.WideShapes Go.ChangeAt Go.RowKit

theorem door_met (os : Os) (args : Array Value) : laidMetH Ybad.prog laid4 ((World.doorLaid Ybad.prog 24 os).forCall (fun _ _ => 0) ⟨#[], args, []⟩).memory :=
  laidMetH_of_parts3 (fuel := 8) (laidMet_of_run' 8 (by kernel_rfl) (by kernel_rfl)) (by kernel_rfl) (by kernel_rfl)

set_option maxRecDepth 100000 in
theorem arrive_lifted (os : Os) (started : os.Started) (H : Type) (enc : TypeId × Value → H) :
    ReturnsInHanded {} Ybad.checked os 3 .any (fun w args => (Rows.lawS0123BArriveSpec.pre enc Ybad.prog Ybad.f3 [] false w args ∧ laidMetH Ybad.prog laid4 w) ∧ sizedMet enc Ybad.prog Ybad.f3 (OpenSpec.ofChange Rows.lawS0123BArriveSpec) false w args)
      (Rows.lawS0123BArriveSpec.post enc Ybad.prog Ybad.f3 false true false false) := by
  refine returnsInHanded_of_change_and (C := Ybad.checked) (X := fun w _ => laidMetH Ybad.prog laid4 w) (fun _ _ _ hh h => h.of_heap hh) Ybad.own started (by kernel_rfl) Ybad.func3
    (ChangeSpec.witness_shaped (enc := enc) (C := Ybad.checked) (os := os) (X := fun w _ => laidMetH Ybad.prog laid4 w) false (World.doorLaid Ybad.prog 24 os) #[.int .u32 0, .agg #[.int .u32 0, .int .u32 0, .int .u32 0, .int .u32 0], .int .i64 0, .int .i64 0, .bool false] 8 rfl (World.shaped_of_RefB (by kernel_rfl) (by kernel_rfl)) (by kernel_rfl) (by kernel_rfl) (by kernel_rfl) (door_met os _)) ?_
  intro W base args ds gs before hval0 hW _ _ hL _
  have hval : ∀ (j : Nat) t v, Ybad.f3.params[j]? = some t → args[j]? = some v → Value.okWide Ybad.prog W .any base t v := hval0
  have hW' := hW
  obtain ⟨p, q, hA0, hV, rfl, hfz, hnd⟩ := hW
  have hA : DataW.TrodAll enc Ybad.prog W 0 (fun _ => true) true Ybad.f3.params.toList args.toList ds p := hA0
  rw [Ybad.params3] at hA hval
  obtain ⟨v0, vs0, d0, ds0, p0, q0, e0, rfl, rfl, h0, hA1⟩ := trodAll_cons hA
  obtain ⟨v1, vs1, d1, ds1, p1, q1, rfl, rfl, rfl, h1, hA2⟩ := trodAll_cons hA1
  obtain ⟨v2, v3, v4, d2, d3, d4, p2, p3, p4, e1, rfl, rfl, h2, h3, h4⟩ := trodAll_three (args := vs1.toArray) (by simpa using hA2)
  have ea : args = #[v0, v1, v2, v3, v4] := by
    have e2 : vs1 = [v2, v3, v4] := by simpa using congrArg Array.toList e1
    rw [e2] at e0
    cases args; simp_all
  subst ea
  clear e0 e1 hA1 hA2
  obtain ⟨x, rfl, rfl, rfl, wx⟩ := open_int Ybad.underlying22 (hval 0 22 v0 rfl rfl) h0
  obtain ⟨r0, r1, r2, r3, rfl⟩ := arr_of_trod h1
  obtain ⟨y, rfl, rfl, rfl, wy⟩ := open_int Ybad.underlying3 (hval 2 3 v2 rfl rfl) h2
  obtain ⟨z, rfl, rfl, rfl, wz⟩ := open_int Ybad.underlying3 (hval 3 3 v3 rfl rfl) h3
  obtain ⟨b, rfl, rfl, rfl⟩ := open_bool Ybad.underlying4 (hval 4 4 v4 rfl rfl) h4
  have lt1 : ∀ x ∈ p1, x.block < W.heap.size := by obtain ⟨m, hm⟩ := h1; exact DataW.trod_lt m _ _ _ hm
  clear hA0 hval0
  have hx : 0 ≤ x ∧ x ≤ 4294967295 := by
    have := wx
    simp [Lit.wf, IntKind.min, IntKind.max, IntKind.signed, IntKind.bits] at this
    omega
  obtain ⟨xn, rfl⟩ := Int.eq_ofNat_of_zero_le hx.1
  have hT := tabs_of_laid hL
  refine (law_any xn r0 r1 r2 r3 y z b W hT).mono ?_
  rintro e W' ⟨rfl, hb⟩
  obtain ⟨g1, g2, g3, g4, ps', rfl, hV'⟩ := vars_after hb hT (fun b => decide (b < W.heap.size)) hV
  exact ⟨_, rfl, _, _, _, [], [] ++ (p1 ++ ([] ++ ([] ++ []))), ps', hW', trodAll_mk1 (shut_bool Ybad.underlying4 _),
    trodAll_cons_mk (shut_int Ybad.underlying22 wx) (trodAll_cons_mk (Below.trod Ybad.laidOut (by kernel_rfl) (of_decide_eq_true (by kernel_rfl)) h1 hb lt1) (trodAll_mk3 (shut_int Ybad.underlying3 wy) (shut_int Ybad.underlying3 wz) (shut_bool Ybad.underlying4 _))), hV', hb.frame _, fun h => by cases h⟩

theorem arrive_row : Rows.LawS0123BArriveSaid :=
  OpenClaim.holds_of_wide 3 Ybad.f3 rfl rfl rfl rfl rfl rfl rfl ⟨rfl, rfl, rfl, rfl, rfl⟩ rfl rfl rfl rfl rfl (by kernel_rfl) Ybad.func3 (by kernel_rfl)
    (of_decide_eq_true (by kernel_rfl)) (by unfold Func.isWrapper; first | (rw [if_pos (by decide +kernel)]; kernel_rfl) | (rw [if_neg (by decide +kernel)]; exact ⟨rfl, rfl⟩))
    (fun os started H enc _ => arrive_lifted os started H enc)

theorem arrive_holds : Rows.LawS0123BArriveCardSaid :=
  Claim7.holds_tied_plain_at .later [] [.data, .data, .data, .data] true _ false
    arrive_row (fun _ h => by cases h) (by kernel_rfl) (fun _ h => by cases h) lawS0123BArrive_row_tie rfl ⟨rfl, rfl⟩ (by kernel_rfl) rfl
    (fun f fn hf hfn => by
      obtain rfl : f = 3 := Option.some.inj ((show Ybad.prog.funcNamed Rows.lawS0123BArriveRow.func = some 3 by kernel_rfl).symm.trans hf) |>.symm
      obtain rfl : fn = Ybad.f3 := (Option.some.inj (Ybad.func3.symm.trans hfn)).symm
      exact ⟨by kernel_rfl, fun j t ht => by
        rw [Ybad.params3] at ht
        have h3 : t = 22 ∨ t = 23 ∨ t = 3 ∨ t = 4 := by
          rcases j with _ | _ | _ | _ | _ | j
          · left; simpa using ht.symm
          · right; left; simpa using ht.symm
          · right; right; left; simpa using ht.symm
          · right; right; left; simpa using ht.symm
          · right; right; right; simpa using ht.symm
          · simp at ht
        rcases h3 with rfl | rfl | rfl | rfl
        · exact (show Ybad.prog.wantsStandIn 22 = false by kernel_rfl)
        · exact (show Ybad.prog.wantsStandIn 23 = false by kernel_rfl)
        · exact (show Ybad.prog.wantsStandIn 3 = false by kernel_rfl)
        · exact (show Ybad.prog.wantsStandIn 4 = false by kernel_rfl)⟩)
    (by kernel_rfl)
#print axioms arrive_holds

end Go.Proofs.YbulkbngDoor
