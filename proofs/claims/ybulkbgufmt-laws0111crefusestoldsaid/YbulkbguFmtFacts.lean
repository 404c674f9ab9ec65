/-
  DERIVED. CLOSED FACTS FOR A WALK OVER fmt's STOPPED FRONTS (fmt.errorf: function 40; fmt.Sprintf: function 44), turned to this dump after the guide's SentryFmt.lean. Each is proved by the kernel's own evaluation.
-/
import Derived.Test.YbulkbguFmtProg
import Derived.Stop.CallBack
import Derived.Stop.IfaceNil
import GoSem.ClaimData
namespace Go.Proofs
open Go.Extern.Stop Go.Stop Go.Extern

-- fmt.errorf: function 40
@[go_sem] theorem Ybaf.call40 (args : Array Value) (w : World) : (callFunc 40 args).run Ybaf.prog w = ((FmtStop.errorf #[9, 87] #[27] args).run Ybaf.prog w).andThen fun v w' => .ok (.value v) w' :=
  run_callFunc_extern Ybaf.func40 (by kernel_rfl) (by kernel_rfl) (by kernel_rfl) (by kernel_rfl) args w

@[go_sem] theorem Ybaf.guard (name : String) (w : World) : (FmtStop.guard name).run Ybaf.prog w = .ok () w := by kernel_rfl

-- "%w, got %d", two operands
@[go_sem] theorem Ybaf.fmt0 : FmtStop.printed? ⟨#[37, 119, 44, 32, 103, 111, 116, 32, 37, 100]⟩ 2 = some [(0, 119, false), (1, 100, false)] := by kernel_rfl
@[go_sem] theorem Ybaf.fmt0r (w : World) : (FmtDoors.printed ⟨#[37, 119, 44, 32, 103, 111, 116, 32, 37, 100]⟩ 2).run Ybaf.prog w = .ok [(0, 119, false), (1, 100, false)] w := by kernel_rfl
-- "node id at byte %d: %w", two operands
@[go_sem] theorem Ybaf.fmt1 : FmtStop.printed? ⟨#[110, 111, 100, 101, 32, 105, 100, 32, 97, 116, 32, 98, 121, 116, 101, 32, 37, 100, 58, 32, 37, 119]⟩ 2 = some [(0, 100, false), (1, 119, false)] := by kernel_rfl
@[go_sem] theorem Ybaf.fmt1r (w : World) : (FmtDoors.printed ⟨#[110, 111, 100, 101, 32, 105, 100, 32, 97, 116, 32, 98, 121, 116, 101, 32, 37, 100, 58, 32, 37, 119]⟩ 2).run Ybaf.prog w = .ok [(0, 100, false), (1, 119, false)] w := by kernel_rfl

-- what each operand type reads as: 3: int · 22: uint64 · 5: uint8
def Ybaf.shape3 : List UInt8 := [5, 3, 0, 0, 0, 0, 0, 0, 0, 105, 110, 116]
@[go_sem] theorem Ybaf.op3_100 (name : String) (x : Int) (w : World) : (FmtStop.operand name false 100 false (.iface 3 (.int .i64 x))).run Ybaf.prog w = .ok (Ybaf.shape3, Go.Extern.Stop.digits 8 (x % 2 ^ 64).toNat) w := by kernel_rfl
@[go_sem] theorem Ybaf.op3_100w (name : String) (x : Int) (w : World) : (FmtStop.operand name true 100 false (.iface 3 (.int .i64 x))).run Ybaf.prog w = .ok (Ybaf.shape3, Go.Extern.Stop.digits 8 (x % 2 ^ 64).toNat) w := by kernel_rfl
def Ybaf.shape22 : List UInt8 := [9, 6, 0, 0, 0, 0, 0, 0, 0, 117, 105, 110, 116, 54, 52]
@[go_sem] theorem Ybaf.op22_100 (name : String) (x : Int) (w : World) : (FmtStop.operand name false 100 false (.iface 22 (.int .u64 x))).run Ybaf.prog w = .ok (Ybaf.shape22, Go.Extern.Stop.digits 8 (x % 2 ^ 64).toNat) w := by kernel_rfl
@[go_sem] theorem Ybaf.op22_100w (name : String) (x : Int) (w : World) : (FmtStop.operand name true 100 false (.iface 22 (.int .u64 x))).run Ybaf.prog w = .ok (Ybaf.shape22, Go.Extern.Stop.digits 8 (x % 2 ^ 64).toNat) w := by kernel_rfl

-- the two error types that fmt.errorf makes: 111: *errors.errorString (113) · 88: *fmt.wrapError (167)
@[go_sem] theorem Ybaf.ptr111 (w : World) : (FmtStop.ptrTo "errors.errorString").run Ybaf.prog w = .ok 111 w := by kernel_rfl
@[go_sem] theorem Ybaf.elem111 (w : World) : (elemOf 111).run Ybaf.prog w = .ok 113 w := by kernel_rfl
@[go_sem] theorem Ybaf.isErr111 (w : World) : (FmtDoors.textMethod 111 "Error").run Ybaf.prog w = .ok true w := by kernel_rfl
def Ybaf.plain111 : List UInt8 := 14 :: FmtStop.pack [42, 101, 114, 114, 111, 114, 115, 46, 101, 114, 114, 111, 114, 83, 116, 114, 105, 110, 103]
theorem Ybaf.str111 (w : World) : ∃ n, (typeStr 111).run Ybaf.prog w = .ok n w ∧ n.toUTF8.data.toList = [42, 101, 114, 114, 111, 114, 115, 46, 101, 114, 114, 111, 114, 83, 116, 114, 105, 110, 103] :=
  ⟨(Ybaf.prog.typeName? 3 111).getD "", by kernel_rfl, by kernel_rfl⟩
theorem Ybaf.opPlain111_119w (name : String) (a : Addr) (s : ByteArray) (w : World) (hc : w.cell? a = some (.string s)) :
    (FmtStop.operand name true 119 false (.iface 111 (.pointer (some a)))).run Ybaf.prog w = .ok (Ybaf.plain111, s.data.toList) w := by
  obtain ⟨nm, h1, h2⟩ := Ybaf.str111 w
  rw [String.toUTF8_eq_toByteArray] at h2
  have d2 : Ybaf.t111.desc = .pointer 113 := rfl
  have d3 : Ybaf.t113.desc = .named "errors.errorString" 112 := rfl
  simp [FmtStop.operand, h1, d2, d3, run_load, hc, h2, Ybaf.plain111]
@[go_sem] theorem Ybaf.ptr88 (w : World) : (FmtStop.ptrTo "fmt.wrapError").run Ybaf.prog w = .ok 88 w := by kernel_rfl
@[go_sem] theorem Ybaf.elem88 (w : World) : (elemOf 88).run Ybaf.prog w = .ok 167 w := by kernel_rfl
@[go_sem] theorem Ybaf.isErr88 (w : World) : (FmtDoors.textMethod 88 "Error").run Ybaf.prog w = .ok true w := by kernel_rfl
def Ybaf.plain88 : List UInt8 := 14 :: FmtStop.pack [42, 102, 109, 116, 46, 119, 114, 97, 112, 69, 114, 114, 111, 114]
theorem Ybaf.str88 (w : World) : ∃ n, (typeStr 88).run Ybaf.prog w = .ok n w ∧ n.toUTF8.data.toList = [42, 102, 109, 116, 46, 119, 114, 97, 112, 69, 114, 114, 111, 114] :=
  ⟨(Ybaf.prog.typeName? 3 88).getD "", by kernel_rfl, by kernel_rfl⟩
theorem Ybaf.opPlain88_119w (name : String) (a : Addr) (s : ByteArray) (w : World) (hc : w.cell? a = some (.string s)) :
    (FmtStop.operand name true 119 false (.iface 88 (.pointer (some a)))).run Ybaf.prog w = .ok (Ybaf.plain88, s.data.toList) w := by
  obtain ⟨nm, h1, h2⟩ := Ybaf.str88 w
  rw [String.toUTF8_eq_toByteArray] at h2
  have d2 : Ybaf.t88.desc = .pointer 167 := rfl
  have d3 : Ybaf.t167.desc = .named "fmt.wrapError" 166 := rfl
  simp [FmtStop.operand, h1, d2, d3, run_load, hc, h2, Ybaf.plain88]

end Go.Proofs
