/-
  DERIVED. THE TIED CARD OF LawS0111BRoundTrip (function 3), PROVED.
-/
import Derived.Test.YbulkbguDoorBase
import Derived.Test.YbulkbguDoorTrip
namespace Go.Proofs.YbulkbguDoor
open Go.ChangeShapes Go.WideShapes Go.ChangeAt Go.RowKit

/-- A slice of bytes that came in, as an append's source. -/
theorem src_of_trod {H : Type} {enc : TypeId × Value → H} {W : World} {a : Option Addr} {len cap : Nat} {d : DataW H} {p : List MemPlace}
    (h : DataW.Trod enc Ybad.prog W 0 (fun _ => true) true 22 (.slice a len cap) d p) : ∃ l : List UInt8, l.length = len ∧ SrcBytes W (.slice a len cap) l ∧ len ≤ 9223372036854775807 := by
  obtain ⟨l, rfl, hB, hm⟩ := bytes_of_trod h
  refine ⟨l, rfl, ?_, hm⟩
  obtain ⟨fuel, hf⟩ := h
  rcases open_ints Ybad.underlying22 Ybad.underlying5 Ybad.cells5 hf with ⟨hcs, _⟩ | ⟨x, l', c, zs, hcs, _⟩
  · simp [Value.cells] at hcs
    obtain ⟨rfl, h0, rfl⟩ := hcs
    have hl : l = [] := List.eq_nil_of_length_eq_zero (by simpa using h0)
    subst hl
    exact Or.inl ⟨rfl, rfl⟩
  · simp [Value.cells] at hcs
    obtain ⟨rfl, _, _⟩ := hcs
    refine Or.inr ⟨x, cap, rfl, fun j hj => ?_⟩
    rcases hB with h0 | ⟨b, o, hx, hc⟩
    · omega
    · cases hx
      rw [Addr.add_lit]
      exact hc j hj

theorem trip_any (v0 v1 : Value) (a0 a1 : Option Addr) (c0 c1 : Nat) (l0 l1 : List UInt8) (h0 : v0 = .slice a0 l0.length c0) (h1 : v1 = .slice a1 l1.length c1) (v : Int) (hv0 : -9223372036854775808 ≤ v) (hv1 : v ≤ 9223372036854775807)
    (w : World) (hS0 : SrcBytes w v0 l0) (hS1 : SrcBytes w v1 l1) (hm0 : l0.length ≤ 9223372036854775807) (hm1 : l1.length ≤ 9223372036854775807) :
    Calls Ybad.prog 3 #[v0, v1, .int .i64 v] w fun e w' => e = .returned (.bool true) ∧ Below w.heap.size w w' := by
  by_cases hn : l0.length ≤ 1024 ∧ l1.length ≤ 1024
  · exact trip_walk v0 v1 a0 a1 c0 c1 l0 l1 h0 h1 v hv0 hv1 w hS0 hS1 hn.1 hn.2
  · exact trip_big v0 v1 a0 a1 _ _ c0 c1 h0 h1 v w (by omega) hm0 hm1

set_option maxRecDepth 100000 in
theorem trip_lifted (os : Os) (started : os.Started) (H : Type) (enc : TypeId × Value → H) :
    ReturnsInHanded {} Ybad.checked os 3 .any (fun w args => (Rows.lawS0111BRoundTripSpec.pre enc Ybad.prog Ybad.f3 [] false w args ∧ laidMetH Ybad.prog laid3 w) ∧ sizedMet enc Ybad.prog Ybad.f3 (OpenSpec.ofChange Rows.lawS0111BRoundTripSpec) false w args)
      (Rows.lawS0111BRoundTripSpec.post enc Ybad.prog Ybad.f3 false true false false) := by
  refine returnsInHanded_of_change_and (C := Ybad.checked) (X := fun w _ => laidMetH Ybad.prog laid3 w) (fun _ _ _ hh h => h.of_heap hh) Ybad.own started (by kernel_rfl) Ybad.func3
    (ChangeSpec.witness_shaped (enc := enc) (C := Ybad.checked) (os := os) (X := fun w _ => laidMetH Ybad.prog laid3 w) false (World.doorLaid Ybad.prog 24 os) #[.slice none 0 0, .slice none 0 0, .int .i64 0] 8 rfl (World.shaped_of_RefB (by kernel_rfl) (by kernel_rfl)) (by kernel_rfl) (by kernel_rfl) (by kernel_rfl) (door_met os _)) ?_
  intro W base args ds gs before hval0 hW _ _ _ _
  have hval : ∀ (j : Nat) t v, Ybad.f3.params[j]? = some t → args[j]? = some v → Value.okWide Ybad.prog W .any base t v := hval0
  have hW' := hW
  obtain ⟨p, q, hA0, hV, rfl, hfz, hnd⟩ := hW
  have hA : DataW.TrodAll enc Ybad.prog W 0 (fun _ => true) true Ybad.f3.params.toList args.toList ds p := hA0
  rw [Ybad.params3] at hA hval
  obtain ⟨v0, v1, v2, d0, d1, d2, p0, p1, p2, rfl, rfl, rfl, h0, h1, h2⟩ := trodAll_three hA
  obtain ⟨rfl, rfl⟩ := trodVars_none hV
  obtain ⟨a0, len0, cap0, rfl⟩ := okWide_slice Ybad.underlying22 (hval 0 22 v0 rfl rfl)
  obtain ⟨a1, len1, cap1, rfl⟩ := okWide_slice Ybad.underlying22 (hval 1 22 v1 rfl rfl)
  have lt0 : ∀ x ∈ p0, x.block < W.heap.size := by obtain ⟨m, hm⟩ := h0; exact DataW.trod_lt m _ _ _ hm
  have lt1 : ∀ x ∈ p1, x.block < W.heap.size := by obtain ⟨m, hm⟩ := h1; exact DataW.trod_lt m _ _ _ hm
  obtain ⟨l0, rfl, hS0, hm0⟩ := src_of_trod h0
  obtain ⟨l1, rfl, hS1, hm1⟩ := src_of_trod h1
  obtain ⟨x, rfl, rfl, rfl, wx⟩ := open_int Ybad.underlying2 (hval 2 2 v2 rfl rfl) h2
  clear hA0 hval0
  have hx : -9223372036854775808 ≤ x ∧ x ≤ 9223372036854775807 := by
    have := wx
    simp [Lit.wf, IntKind.min, IntKind.max, IntKind.signed, IntKind.bits] at this
    omega
  refine (trip_any _ _ a0 a1 cap0 cap1 l0 l1 rfl rfl x hx.1 hx.2 W hS0 hS1 hm0 hm1).mono ?_
  rintro e W' ⟨rfl, hb⟩
  exact ⟨_, rfl, _, _, _, [], _, [], hW', trodAll_mk1 (shut_bool Ybad.underlying4 _), (trodAll_mk3 (Below.trod Ybad.laidOut (by kernel_rfl) (of_decide_eq_true (by kernel_rfl)) h0 hb lt0) (Below.trod Ybad.laidOut (by kernel_rfl) (of_decide_eq_true (by kernel_rfl)) h1 hb lt1) (shut_int Ybad.underlying2 wx)), rfl, hb.frame _, fun h => by cases h⟩

theorem trip_row : Rows.LawS0111BRoundTripSaid :=
  OpenClaim.holds_of_wide 3 Ybad.f3 rfl rfl rfl rfl rfl rfl rfl ⟨rfl, rfl, rfl, rfl, rfl⟩ rfl rfl rfl rfl rfl (by kernel_rfl) Ybad.func3 (by kernel_rfl)
    (of_decide_eq_true (by kernel_rfl)) (by unfold Func.isWrapper; first | (rw [if_pos (by decide +kernel)]; kernel_rfl) | (rw [if_neg (by decide +kernel)]; exact ⟨rfl, rfl⟩))
    (fun os started H enc _ => trip_lifted os started H enc)

theorem trip_holds : Rows.LawS0111BRoundTripCardSaid :=
  Claim7.holds_tied_plain_at .later [] [.data, .data, .data] true _ false
    trip_row (fun _ h => by cases h) (by kernel_rfl) (fun _ h => by cases h) lawS0111BRoundTrip_row_tie rfl ⟨rfl, rfl⟩ (by kernel_rfl) rfl
    (fun f fn hf hfn => by
      obtain rfl : f = 3 := Option.some.inj ((show Ybad.prog.funcNamed Rows.lawS0111BRoundTripRow.func = some 3 by kernel_rfl).symm.trans hf) |>.symm
      obtain rfl : fn = Ybad.f3 := (Option.some.inj (Ybad.func3.symm.trans hfn)).symm
      exact ⟨by kernel_rfl, fun j t ht => by
        rw [Ybad.params3] at ht
        have h3 : t = 22 ∨ t = 2 := by
          rcases j with _ | _ | _ | j
          · left; simpa using ht.symm
          · left; simpa using ht.symm
          · right; simpa using ht.symm
          · simp at ht
        rcases h3 with rfl | rfl
        · exact (show Ybad.prog.wantsStandIn 22 = false by kernel_rfl)
        · exact (show Ybad.prog.wantsStandIn 2 = false by kernel_rfl)⟩)
    (by kernel_rfl)
#print axioms trip_holds

end Go.Proofs.YbulkbguDoor
