/-
  DERIVED. CLOSED FACTS FOR THE CARD; what 'laid' gives: xz's four tables; the variables behind the call.
-/
import Derived.Test.YbulkbngDoorRows
import Derived.Test.YbulkbngDoorTie
import Derived.Test.YbulkbngDoorCards
import Derived.Test.YbulkbngDoorLawB
import Derived.ProofKit
import Derived.LaidLaws
import Derived.LaidMore
import Derived.LaidHandle
import Derived.SevenTiedAt
import Derived.Stop.LaidErr
import Derived.Lib.LaidTab
import Derived.OpenShut
namespace Go.Proofs.YbulkbngDoor
open Go.ChangeShapes Go.WideShapes Go.ChangeAt Go.RowKit

theorem Ybad.own : ownKnob Ybad.prog.godebug = none := by kernel_rfl
theorem Ybad.laidOut : laidOutB Ybad.prog = true := by kernel_rfl

abbrev laid4 : List (String × DataW Unit) := Rows.lawS0123BArriveRow.laid

theorem data_afterLiteral : (Rows.laid_example_com_deltaweave_deltaweave_internal_xz_afterLiteral : DataW Unit) = Lib.tabData .u32 [0, 0, 0, 0, 1, 2, 3, 4, 5, 6, 4, 5] := rfl
theorem data_afterMatch : (Rows.laid_example_com_deltaweave_deltaweave_internal_xz_afterMatch : DataW Unit) = Lib.tabData .u32 [7, 7, 7, 7, 7, 7, 7, 10, 10, 10, 10, 10] := rfl
theorem data_afterRep : (Rows.laid_example_com_deltaweave_deltaweave_internal_xz_afterRep : DataW Unit) = Lib.tabData .u32 [8, 8, 8, 8, 8, 8, 8, 11, 11, 11, 11, 11] := rfl
theorem data_afterShortRep : (Rows.laid_example_com_deltaweave_deltaweave_internal_xz_afterShortRep : DataW Unit) = Lib.tabData .u32 [9, 9, 9, 9, 9, 9, 9, 11, 11, 11, 11, 11] := rfl

theorem tabs_of_laid {W : World} (hL : laidMetH Ybad.prog laid4 W) : Tabs W := by
  rw [MakeChecks.laidMetH_plain _ _ _ (by kernel_rfl)] at hL
  have h0 : laidMet Ybad.prog (("example.com/deltaweave/deltaweave/internal/xz.afterLiteral", Rows.laid_example_com_deltaweave_deltaweave_internal_xz_afterLiteral) :: _) W := hL
  rw [data_afterLiteral] at h0
  have k0 := Lib.tabIs_of_head (g := 0) (t := 54) (e := 22) (n := 12) (by kernel_rfl) (by kernel_rfl) Ybad.underlying54 Ybad.underlying22 (by kernel_rfl) (by kernel_rfl) h0
  unfold Lib.TabIs at k0
  have h1 := hL.tail
  rw [data_afterMatch] at h1
  have k1 := Lib.tabIs_of_head (g := 3) (t := 54) (e := 22) (n := 12) (by kernel_rfl) (by kernel_rfl) Ybad.underlying54 Ybad.underlying22 (by kernel_rfl) (by kernel_rfl) h1
  unfold Lib.TabIs at k1
  have h2 := hL.tail.tail
  rw [data_afterRep] at h2
  have k2 := Lib.tabIs_of_head (g := 2) (t := 54) (e := 22) (n := 12) (by kernel_rfl) (by kernel_rfl) Ybad.underlying54 Ybad.underlying22 (by kernel_rfl) (by kernel_rfl) h2
  unfold Lib.TabIs at k2
  have h3 := hL.tail.tail.tail
  rw [data_afterShortRep] at h3
  have k3 := Lib.tabIs_of_head (g := 1) (t := 54) (e := 22) (n := 12) (by kernel_rfl) (by kernel_rfl) Ybad.underlying54 Ybad.underlying22 (by kernel_rfl) (by kernel_rfl) h3
  unfold Lib.TabIs at k3
  refine ⟨fun s hs => ?_, fun s hs => ?_, fun s hs => ?_, fun s hs => ?_⟩
  · have := World.var?_cell (by kernel_rfl : Ybad.prog.globalNamed "example.com/deltaweave/deltaweave/internal/xz.afterLiteral" = some 0) k0 s
    rw [this]
    clear this
    match s, hs with
    | 0, _ => rfl
    | 1, _ => rfl
    | 2, _ => rfl
    | 3, _ => rfl
    | 4, _ => rfl
    | 5, _ => rfl
    | 6, _ => rfl
    | 7, _ => rfl
    | 8, _ => rfl
    | 9, _ => rfl
    | 10, _ => rfl
    | 11, _ => rfl
  · have := World.var?_cell (by kernel_rfl : Ybad.prog.globalNamed "example.com/deltaweave/deltaweave/internal/xz.afterShortRep" = some 1) k3 s
    rw [this]
    clear this
    match s, hs with
    | 0, _ => rfl
    | 1, _ => rfl
    | 2, _ => rfl
    | 3, _ => rfl
    | 4, _ => rfl
    | 5, _ => rfl
    | 6, _ => rfl
    | 7, _ => rfl
    | 8, _ => rfl
    | 9, _ => rfl
    | 10, _ => rfl
    | 11, _ => rfl
  · have := World.var?_cell (by kernel_rfl : Ybad.prog.globalNamed "example.com/deltaweave/deltaweave/internal/xz.afterRep" = some 2) k2 s
    rw [this]
    clear this
    match s, hs with
    | 0, _ => rfl
    | 1, _ => rfl
    | 2, _ => rfl
    | 3, _ => rfl
    | 4, _ => rfl
    | 5, _ => rfl
    | 6, _ => rfl
    | 7, _ => rfl
    | 8, _ => rfl
    | 9, _ => rfl
    | 10, _ => rfl
    | 11, _ => rfl
  · have := World.var?_cell (by kernel_rfl : Ybad.prog.globalNamed "example.com/deltaweave/deltaweave/internal/xz.afterMatch" = some 3) k1 s
    rw [this]
    clear this
    match s, hs with
    | 0, _ => rfl
    | 1, _ => rfl
    | 2, _ => rfl
    | 3, _ => rfl
    | 4, _ => rfl
    | 5, _ => rfl
    | 6, _ => rfl
    | 7, _ => rfl
    | 8, _ => rfl
    | 9, _ => rfl
    | 10, _ => rfl
    | 11, _ => rfl

theorem trod22 {H : Type} {enc : TypeId × Value → H} (W W' : World) (sp sp' : Nat → Bool) (fuel : Nat) (cs : List Value) : DataW.trod enc Ybad.prog W 0 sp true fuel 22 cs = DataW.trod enc Ybad.prog W' 0 sp' true fuel 22 cs := by
  cases fuel with
  | zero => rfl
  | succ m =>
    unfold DataW.trod
    rw [Ybad.underlying22]
    cases cs with
    | nil => rfl
    | cons v vs => cases v <;> cases vs <;> rfl

theorem trod54 {H : Type} {enc : TypeId × Value → H} (W W' : World) (sp sp' : Nat → Bool) (fuel : Nat) (cs : List Value) : DataW.trod enc Ybad.prog W 0 sp true fuel 54 cs = DataW.trod enc Ybad.prog W' 0 sp' true fuel 54 cs := by
  cases fuel with
  | zero => rfl
  | succ m =>
    unfold DataW.trod
    rw [Ybad.underlying54]
    simp only [trod22 W W' sp sp']

theorem vars_step {H : Type} {enc : TypeId × Value → H} {W W' : World} (hb : Below W.heap.size W W') (sp : Nat → Bool) {n : String} {ns : List String} {gs : List (DataW H)} {ps : List MemPlace} (g : Nat) (hg : Ybad.prog.globalNamed n = some g) (ht : (Ybad.prog.globals[g]?).map (·.type) = some 54) (hgl : g < W.heap.size)
    (h : DataW.TrodVars enc Ybad.prog W (fun _ => true) (n :: ns) gs ps) : ∃ d ds q, gs = d :: ds ∧ DataW.TrodVars enc Ybad.prog W (fun _ => true) ns ds q ∧ ∀ q', DataW.TrodVars enc Ybad.prog W' sp ns ds q' → ∃ ps', DataW.TrodVars enc Ybad.prog W' sp (n :: ns) (d :: ds) ps' := by
  cases gs with
  | nil => simp [DataW.TrodVars] at h
  | cons d ds =>
    obtain ⟨g0, t0, cs, f, p, q, h1, h2, h3, h4, hs, _⟩ := h
    rw [hg] at h1
    cases h1
    rw [ht] at h2
    cases h2
    refine ⟨d, ds, q, rfl, hs, fun q' hq' => ⟨_, g, 54, cs, f, p, q', hg, ht, var?_below hb hg hgl h3, ?_, hq', rfl⟩⟩
    rw [← trod54 W W' (fun _ => true) sp]; exact h4

/-- The four variables behind the call. -/
theorem vars_after {H : Type} {enc : TypeId × Value → H} {W W' : World} (hb : Below W.heap.size W W') (hT : Tabs W) (sp : Nat → Bool) {gs : List (DataW H)} {ps : List MemPlace}
    (h : DataW.TrodVars enc Ybad.prog W (fun _ => true) ["example.com/deltaweave/deltaweave/internal/xz.afterLiteral", "example.com/deltaweave/deltaweave/internal/xz.afterShortRep", "example.com/deltaweave/deltaweave/internal/xz.afterRep", "example.com/deltaweave/deltaweave/internal/xz.afterMatch"] gs ps) : ∃ g1 g2 g3 g4 ps', gs = [g1, g2, g3, g4] ∧ DataW.TrodVars enc Ybad.prog W' sp ["example.com/deltaweave/deltaweave/internal/xz.afterLiteral", "example.com/deltaweave/deltaweave/internal/xz.afterShortRep", "example.com/deltaweave/deltaweave/internal/xz.afterRep", "example.com/deltaweave/deltaweave/internal/xz.afterMatch"] [g1, g2, g3, g4] ps' := by
  have l0 : 0 < W.heap.size := World.block_lt_of_cell? _ _ (hT.a0 0 (by omega))
  have l1 : 1 < W.heap.size := World.block_lt_of_cell? _ _ (hT.a1 0 (by omega))
  have l2 : 2 < W.heap.size := World.block_lt_of_cell? _ _ (hT.a2 0 (by omega))
  have l3 : 3 < W.heap.size := World.block_lt_of_cell? _ _ (hT.a3 0 (by omega))
  obtain ⟨g1, ds1, q1, rfl, h1, k1⟩ := vars_step hb sp 0 (by kernel_rfl) (by kernel_rfl) l0 h
  obtain ⟨g2, ds2, q2, rfl, h2, k2⟩ := vars_step hb sp 1 (by kernel_rfl) (by kernel_rfl) l1 h1
  obtain ⟨g3, ds3, q3, rfl, h3, k3⟩ := vars_step hb sp 2 (by kernel_rfl) (by kernel_rfl) l2 h2
  obtain ⟨g4, ds4, q4, rfl, h4, k4⟩ := vars_step hb sp 3 (by kernel_rfl) (by kernel_rfl) l3 h3
  obtain ⟨rfl, rfl⟩ := trodVars_none h4
  obtain ⟨p4, e4⟩ := k4 [] rfl
  obtain ⟨p3, e3⟩ := k3 p4 e4
  obtain ⟨p2, e2⟩ := k2 p3 e3
  obtain ⟨p1, e1⟩ := k1 p2 e2
  exact ⟨g1, g2, g3, g4, p1, rfl, e1⟩

theorem Ybad.cells23 : Ybad.prog.cellsOf 23 = 4 := by kernel_rfl

theorem int_of_trod {H : Type} {enc : TypeId × Value → H} {W : World} {fuel : Nat} {v : Value} {x : DataW H × List MemPlace} (h : DataW.trod enc Ybad.prog W 0 (fun _ => true) true fuel 22 [v] = some x) : ∃ r, v = .int .u32 r := by
  cases fuel with
  | zero => simp [DataW.trod] at h
  | succ m =>
    unfold DataW.trod at h
    rw [Ybad.underlying22] at h
    cases v <;> simp at h
    case int k n => exact ⟨n, by rw [h.1.1]⟩

/-- An argument of type [4]uint32. -/
theorem arr_of_trod {H : Type} {enc : TypeId × Value → H} {W : World} {v : Value} {d : DataW H} {p : List MemPlace}
    (h : DataW.Trod enc Ybad.prog W 0 (fun _ => true) true 23 v d p) : ∃ r0 r1 r2 r3 : Int, v = .agg #[.int .u32 r0, .int .u32 r1, .int .u32 r2, .int .u32 r3] := by
  obtain ⟨fuel, hf⟩ := h
  obtain ⟨ys, m, _, _, hl, hy, hel⟩ := DataW.trod_array Ybad.underlying23 hf
  rw [Ybad.cells23] at hl
  have hag : ∃ xs, v = .agg xs := by
    cases v
    case agg xs => exact ⟨xs, rfl⟩
    all_goals (simp [Value.cells] at hl)
  obtain ⟨xs, rfl⟩ := hag
  have hl' : xs.toList.length = 4 := by simpa [Value.cells] using hl
  obtain ⟨l⟩ := xs
  match l, hl' with
  | [a, b, c, e], _ =>
    have one : ∀ i (hi : i < 4) (u : Value), ((([a, b, c, e] : List Value).drop i).take 1) = [u] → ∃ r, u = .int .u32 r := by
      intro i hi u hu
      have h1 := hel i hi
      rw [Ybad.cells22, Nat.mul_one] at h1
      have h2 : ((Value.agg ⟨[a, b, c, e]⟩).cells.toList.drop i).take 1 = [u] := hu
      rw [h2, List.getElem?_eq_getElem (by omega)] at h1
      exact int_of_trod h1
    obtain ⟨r0, rfl⟩ := one 0 (by omega) a rfl
    obtain ⟨r1, rfl⟩ := one 1 (by omega) b rfl
    obtain ⟨r2, rfl⟩ := one 2 (by omega) c rfl
    obtain ⟨r3, rfl⟩ := one 3 (by omega) e rfl
    exact ⟨r0, r1, r2, r3, rfl⟩

end Go.Proofs.YbulkbngDoor
