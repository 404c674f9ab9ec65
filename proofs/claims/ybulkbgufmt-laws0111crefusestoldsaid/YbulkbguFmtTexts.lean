/-
  DERIVED. CLOSED FACTS FOR fmt.Sprintf (function 44: a stop) at this program's four formats; how long the told texts are.
-/
import Derived.Test.YbulkbguFmtFacts
import Derived.Stop.FmtTextKit
import Derived.Stop.FmtTextVerbs
import Derived.Stop.FmtTextWidths
import Derived.Stop.Told
import Derived.Stop.Texts
import Derived.Lib.ItoaLen
namespace Go.Proofs
open Go.Extern.Stop Go.Stop Go.Extern

@[go_sem] theorem Ybaf.call44 (args : Array Value) (w : World) : (callFunc 44 args).run Ybaf.prog w = ((FmtStop.sprintf #[9, 87] #[9] args).run Ybaf.prog w).andThen fun v w' => .ok (.value v) w' :=
  run_callFunc_extern Ybaf.func44 (by kernel_rfl) (by kernel_rfl) (by kernel_rfl) (by kernel_rfl) args w
-- "input ends where tag 0x%02x belongs"
@[go_sem] theorem Ybaf.fmtA : FmtStop.printed? ⟨#[105, 110, 112, 117, 116, 32, 101, 110, 100, 115, 32, 119, 104, 101, 114, 101, 32, 116, 97, 103, 32, 48, 120, 37, 48, 50, 120, 32, 98, 101, 108, 111, 110, 103, 115]⟩ 1 = some [(0, 120, false)] := by kernel_rfl
@[go_sem] theorem Ybaf.fmtAr (w : World) : (FmtDoors.printed ⟨#[105, 110, 112, 117, 116, 32, 101, 110, 100, 115, 32, 119, 104, 101, 114, 101, 32, 116, 97, 103, 32, 48, 120, 37, 48, 50, 120, 32, 98, 101, 108, 111, 110, 103, 115]⟩ 1).run Ybaf.prog w = .ok [(0, 120, false)] w := by kernel_rfl
-- "tag 0x%02x where 0x%02x belongs"
@[go_sem] theorem Ybaf.fmtB : FmtStop.printed? ⟨#[116, 97, 103, 32, 48, 120, 37, 48, 50, 120, 32, 119, 104, 101, 114, 101, 32, 48, 120, 37, 48, 50, 120, 32, 98, 101, 108, 111, 110, 103, 115]⟩ 2 = some [(0, 120, false), (1, 120, false)] := by kernel_rfl
@[go_sem] theorem Ybaf.fmtBr (w : World) : (FmtDoors.printed ⟨#[116, 97, 103, 32, 48, 120, 37, 48, 50, 120, 32, 119, 104, 101, 114, 101, 32, 48, 120, 37, 48, 50, 120, 32, 98, 101, 108, 111, 110, 103, 115]⟩ 2).run Ybaf.prog w = .ok [(0, 120, false), (1, 120, false)] w := by kernel_rfl
-- "count %d, more than the %d bytes left can hold"
@[go_sem] theorem Ybaf.fmtC : FmtStop.printed? ⟨#[99, 111, 117, 110, 116, 32, 37, 100, 44, 32, 109, 111, 114, 101, 32, 116, 104, 97, 110, 32, 116, 104, 101, 32, 37, 100, 32, 98, 121, 116, 101, 115, 32, 108, 101, 102, 116, 32, 99, 97, 110, 32, 104, 111, 108, 100]⟩ 2 = some [(0, 100, false), (1, 100, false)] := by kernel_rfl
@[go_sem] theorem Ybaf.fmtCr (w : World) : (FmtDoors.printed ⟨#[99, 111, 117, 110, 116, 32, 37, 100, 44, 32, 109, 111, 114, 101, 32, 116, 104, 97, 110, 32, 116, 104, 101, 32, 37, 100, 32, 98, 121, 116, 101, 115, 32, 108, 101, 102, 116, 32, 99, 97, 110, 32, 104, 111, 108, 100]⟩ 2).run Ybaf.prog w = .ok [(0, 100, false), (1, 100, false)] w := by kernel_rfl
-- "length %d, more than the %d bytes left"
@[go_sem] theorem Ybaf.fmtD : FmtStop.printed? ⟨#[108, 101, 110, 103, 116, 104, 32, 37, 100, 44, 32, 109, 111, 114, 101, 32, 116, 104, 97, 110, 32, 116, 104, 101, 32, 37, 100, 32, 98, 121, 116, 101, 115, 32, 108, 101, 102, 116]⟩ 2 = some [(0, 100, false), (1, 100, false)] := by kernel_rfl
@[go_sem] theorem Ybaf.fmtDr (w : World) : (FmtDoors.printed ⟨#[108, 101, 110, 103, 116, 104, 32, 37, 100, 44, 32, 109, 111, 114, 101, 32, 116, 104, 97, 110, 32, 116, 104, 101, 32, 37, 100, 32, 98, 121, 116, 101, 115, 32, 108, 101, 102, 116]⟩ 2).run Ybaf.prog w = .ok [(0, 100, false), (1, 100, false)] w := by kernel_rfl
def Ybaf.shape5 : List UInt8 := [6, 5, 0, 0, 0, 0, 0, 0, 0, 117, 105, 110, 116, 56]
@[go_sem] theorem Ybaf.op5_120 (name : String) (x : Int) (w : World) : (FmtStop.operand name false 120 false (.iface 5 (.int .u8 x))).run Ybaf.prog w = .ok (Ybaf.shape5, Go.Extern.Stop.digits 8 (x % 2 ^ 64).toNat) w := by kernel_rfl
namespace YbulkbguFmt

abbrev readA (x : Int) : List (List UInt8) := [[105, 110, 112, 117, 116, 32, 101, 110, 100, 115, 32, 119, 104, 101, 114, 101, 32, 116, 97, 103, 32, 48, 120, 37, 48, 50, 120, 32, 98, 101, 108, 111, 110, 103, 115], Ybaf.shape5, digits 8 (x % 18446744073709551616).toNat]
abbrev readB (x y : Int) : List (List UInt8) := [[116, 97, 103, 32, 48, 120, 37, 48, 50, 120, 32, 119, 104, 101, 114, 101, 32, 48, 120, 37, 48, 50, 120, 32, 98, 101, 108, 111, 110, 103, 115], Ybaf.shape5, digits 8 (x % 18446744073709551616).toNat, Ybaf.shape5, digits 8 (y % 18446744073709551616).toNat]
abbrev readC (x y : Int) : List (List UInt8) := [[99, 111, 117, 110, 116, 32, 37, 100, 44, 32, 109, 111, 114, 101, 32, 116, 104, 97, 110, 32, 116, 104, 101, 32, 37, 100, 32, 98, 121, 116, 101, 115, 32, 108, 101, 102, 116, 32, 99, 97, 110, 32, 104, 111, 108, 100], Ybaf.shape22, digits 8 (x % 18446744073709551616).toNat, Ybaf.shape3, digits 8 (y % 18446744073709551616).toNat]
abbrev readD (x y : Int) : List (List UInt8) := [[108, 101, 110, 103, 116, 104, 32, 37, 100, 44, 32, 109, 111, 114, 101, 32, 116, 104, 97, 110, 32, 116, 104, 101, 32, 37, 100, 32, 98, 121, 116, 101, 115, 32, 108, 101, 102, 116], Ybaf.shape22, digits 8 (x % 18446744073709551616).toNat, Ybaf.shape3, digits 8 (y % 18446744073709551616).toNat]
theorem parseA : (FmtText.parse [105, 110, 112, 117, 116, 32, 101, 110, 100, 115, 32, 119, 104, 101, 114, 101, 32, 116, 97, 103, 32, 48, 120, 37, 48, 50, 120, 32, 98, 101, 108, 111, 110, 103, 115]).map FmtText.glue = some [.lit [105, 110, 112, 117, 116, 32, 101, 110, 100, 115, 32, 119, 104, 101, 114, 101, 32, 116, 97, 103, 32, 48, 120], .verb { widPresent := true, wid := 2, zero := true } 120, .lit [32, 98, 101, 108, 111, 110, 103, 115]] := by rfl
theorem parseB : (FmtText.parse [116, 97, 103, 32, 48, 120, 37, 48, 50, 120, 32, 119, 104, 101, 114, 101, 32, 48, 120, 37, 48, 50, 120, 32, 98, 101, 108, 111, 110, 103, 115]).map FmtText.glue = some [.lit [116, 97, 103, 32, 48, 120], .verb { widPresent := true, wid := 2, zero := true } 120, .lit [32, 119, 104, 101, 114, 101, 32, 48, 120], .verb { widPresent := true, wid := 2, zero := true } 120, .lit [32, 98, 101, 108, 111, 110, 103, 115]] := by rfl
theorem parseC : (FmtText.parse [99, 111, 117, 110, 116, 32, 37, 100, 44, 32, 109, 111, 114, 101, 32, 116, 104, 97, 110, 32, 116, 104, 101, 32, 37, 100, 32, 98, 121, 116, 101, 115, 32, 108, 101, 102, 116, 32, 99, 97, 110, 32, 104, 111, 108, 100]).map FmtText.glue = some [.lit [99, 111, 117, 110, 116, 32], .verb {} 100, .lit [44, 32, 109, 111, 114, 101, 32, 116, 104, 97, 110, 32, 116, 104, 101, 32], .verb {} 100, .lit [32, 98, 121, 116, 101, 115, 32, 108, 101, 102, 116, 32, 99, 97, 110, 32, 104, 111, 108, 100]] := by rfl
theorem parseD : (FmtText.parse [108, 101, 110, 103, 116, 104, 32, 37, 100, 44, 32, 109, 111, 114, 101, 32, 116, 104, 97, 110, 32, 116, 104, 101, 32, 37, 100, 32, 98, 121, 116, 101, 115, 32, 108, 101, 102, 116]).map FmtText.glue = some [.lit [108, 101, 110, 103, 116, 104, 32], .verb {} 100, .lit [44, 32, 109, 111, 114, 101, 32, 116, 104, 97, 110, 32, 116, 104, 101, 32], .verb {} 100, .lit [32, 98, 121, 116, 101, 115, 32, 108, 101, 102, 116]] := by rfl

theorem size_of_text (F : Interp) {reading : List (List UInt8)} {s : List UInt8} (h : FmtText.text "fmt.Sprintf" reading = some s) (hl : s.length ≤ 1000) : (FmtStop.textOf (F.told "fmt.Sprintf" reading 0)).size ≤ 1000 := by
  have ht := told_string F h (by omega)
  have h1 := Kit.textOf_list F.told "fmt.Sprintf" reading
  rw [ht] at h1
  have h2 : (FmtStop.textOf (F.told "fmt.Sprintf" reading 0)).size = s.length := by
    rw [← h1]; exact Array.length_toList.symm
  omega

theorem sizeA (F : Interp) (x : Int) (hx : (Lit.int .u8 x).wf = true) (h0 : 0 ≤ x) (h1 : x < 256) : (FmtStop.textOf (F.told "fmt.Sprintf" (readA x) 0)).size ≤ 1000 := by
  have ho := FmtText.operand_int_at (sh := Ybaf.shape5) (k := .u8) rfl rfl x hx
  have ht : ∃ s, FmtText.text "fmt.Sprintf" (readA x) = some s ∧ s.length ≤ 1000 := by
    rw [readA, FmtText.text_sprintf_glued parseA (FmtText.operands_cons ho FmtText.operands_nil)]
    simp [FmtText.render, FmtText.printArg_02x_byte _ _ _ h0 h1, IntKind.signed]
  obtain ⟨s, hs, hl⟩ := ht
  exact size_of_text F hs hl

theorem sizeB (F : Interp) (x y : Int) (hx : (Lit.int .u8 x).wf = true) (hy : (Lit.int .u8 y).wf = true) (h0 : 0 ≤ x) (h1 : x < 256) (h2 : 0 ≤ y) (h3 : y < 256) : (FmtStop.textOf (F.told "fmt.Sprintf" (readB x y) 0)).size ≤ 1000 := by
  have ho := FmtText.operand_int_at (sh := Ybaf.shape5) (k := .u8) rfl rfl x hx
  have ho2 := FmtText.operand_int_at (sh := Ybaf.shape5) (k := .u8) rfl rfl y hy
  have ht : ∃ s, FmtText.text "fmt.Sprintf" (readB x y) = some s ∧ s.length ≤ 1000 := by
    rw [readB, FmtText.text_sprintf_glued parseB (FmtText.operands_cons ho (FmtText.operands_cons ho2 FmtText.operands_nil))]
    simp [FmtText.render, FmtText.printArg_02x_byte _ _ _ h0 h1, FmtText.printArg_02x_byte _ _ _ h2 h3, IntKind.signed]
  obtain ⟨s, hs, hl⟩ := ht
  exact size_of_text F hs hl

theorem sizeC (F : Interp) (x y : Int) (hx : (Lit.int .u64 x).wf = true) (hy : (Lit.int .i64 y).wf = true) : (FmtStop.textOf (F.told "fmt.Sprintf" (readC x y) 0)).size ≤ 1000 := by
  have ho := FmtText.operand_int_at (sh := Ybaf.shape22) (k := .u64) rfl rfl x hx
  have ho2 := FmtText.operand_int_at (sh := Ybaf.shape3) (k := .i64) rfl rfl y hy
  have l1 := FmtText.itoa_length_le hx
  have l2 := FmtText.itoa_length_le hy
  have ht : ∃ s, FmtText.text "fmt.Sprintf" (readC x y) = some s ∧ s.length ≤ 1000 := by
    rw [readC, FmtText.text_sprintf_glued parseC (FmtText.operands_cons ho (FmtText.operands_cons ho2 FmtText.operands_nil))]
    simp [FmtText.render, FmtText.printArg_d _ _ hx, FmtText.printArg_d _ _ hy]
    omega
  obtain ⟨s, hs, hl⟩ := ht
  exact size_of_text F hs hl

theorem sizeD (F : Interp) (x y : Int) (hx : (Lit.int .u64 x).wf = true) (hy : (Lit.int .i64 y).wf = true) : (FmtStop.textOf (F.told "fmt.Sprintf" (readD x y) 0)).size ≤ 1000 := by
  have ho := FmtText.operand_int_at (sh := Ybaf.shape22) (k := .u64) rfl rfl x hx
  have ho2 := FmtText.operand_int_at (sh := Ybaf.shape3) (k := .i64) rfl rfl y hy
  have l1 := FmtText.itoa_length_le hx
  have l2 := FmtText.itoa_length_le hy
  have ht : ∃ s, FmtText.text "fmt.Sprintf" (readD x y) = some s ∧ s.length ≤ 1000 := by
    rw [readD, FmtText.text_sprintf_glued parseD (FmtText.operands_cons ho (FmtText.operands_cons ho2 FmtText.operands_nil))]
    simp [FmtText.render, FmtText.printArg_d _ _ hx, FmtText.printArg_d _ _ hy]
    omega
  obtain ⟨s, hs, hl⟩ := ht
  exact size_of_text F hs hl

end YbulkbguFmt
end Go.Proofs
