/-
  DERIVED: THE SHELF's CONTRACTS AT THIS DUMP, IN PLAIN WORDS (tools/lay-plain.mjs out of 'YbadShelf.lean', which tools/lay-shelf.mjs wrote): THE SAME DECLARATIONS UNDER THE SAME NAMES: 'import', 'namespace', 'open', 'def', 'theorem' AND NOTHING ELSE: no command of the shelf's: FOR A HAND-IN. Each laying: the table of numbers ('.._ren') and one theorem, a field a fact of the dump's own or the kernel's comparison; each contract: ONE APPLICATION.
-/
import Derived.Shelf.Strconv.Itoa0
import Derived.Shelf.Strconv.Itoa1
import Derived.Shelf.LaysM
import Derived.Shelf.Strconv.Itoa2
import Derived.Shelf.Strconv.Itoa3
import Derived.Shelf.Bin.Uvarint
import Derived.Shelf.Bin.UvarintEmpty
import Derived.Test.YbulkbguDoorProg
namespace Go.Proofs
open Go.Shelf
def Ybad.laysM171_ren : Go.Shelf.Ren := ⟨fun | 171 => 11 | 243 => 13 | 246 => 14 | 283 => 15 | 284 => 16 | 285 => 17 | 286 => 18 | 129 => 20 | 317 => 19 | 318 => 21 | 319 => 22 | 320 => 23 | 337 => 24 | 338 => 25 | n => n, fun | 3 => 3 | 9 => 9 | 2 => 2 | 4 => 4 | 171 => 49 | 0 => 0 | 53 => 33 | 37 => 22 | 5 => 5 | 173 => 52 | 212 => 56 | 51 => 57 | 20 => 20 | 213 => 58 | 46 => 34 | 232 => 62 | 233 => 63 | n => n, fun | 17 => 0 | 18 => 1 | 19 => 2 | n => n⟩
theorem Ybad.laysM171 : Go.Proofs.LaysM.n171 Ybad.prog Ybad.laysM171_ren := {
  mixed := by kernel_rfl
  f129 := Ybad.func20.trans (congrArg some (by kernel_rfl))
  f171 := Ybad.func11.trans (congrArg some (by kernel_rfl))
  f243 := Ybad.func13.trans (congrArg some (by kernel_rfl))
  f246 := Ybad.func14.trans (congrArg some (by kernel_rfl))
  f283 := Ybad.func15.trans (congrArg some (by kernel_rfl))
  f284 := Ybad.func16.trans (congrArg some (by kernel_rfl))
  f285 := Ybad.func17.trans (congrArg some (by kernel_rfl))
  f286 := Ybad.func18.trans (congrArg some (by kernel_rfl))
  f317 := Ybad.func19.trans (congrArg some (by kernel_rfl))
  f318 := Ybad.func21.trans (congrArg some (by kernel_rfl))
  f319 := Ybad.func22.trans (congrArg some (by kernel_rfl))
  f320 := Ybad.func23.trans (congrArg some (by kernel_rfl))
  f337 := Ybad.func24.trans (congrArg some (by kernel_rfl))
  f338 := Ybad.func25.trans (congrArg some (by kernel_rfl))
  t0 := Ybad.underlying0
  a0 := Ybad.isAgg0
  z0 := Ybad.sizeOf0
  v0 := Ybad.zeroValue0
  t2 := Ybad.underlying2
  a2 := Ybad.isAgg2
  z2 := Ybad.sizeOf2
  v2 := Ybad.zeroValue2
  t3 := Ybad.underlying3
  a3 := Ybad.isAgg3
  z3 := Ybad.sizeOf3
  v3 := Ybad.zeroValue3
  t4 := Ybad.underlying4
  a4 := Ybad.isAgg4
  z4 := Ybad.sizeOf4
  v4 := Ybad.zeroValue4
  t5 := Ybad.underlying5
  a5 := Ybad.isAgg5
  z5 := Ybad.sizeOf5
  v5 := Ybad.zeroValue5
  t9 := Ybad.underlying9
  a9 := Ybad.isAgg9
  z9 := Ybad.sizeOf9
  v9 := Ybad.zeroValue9
  t20 := Ybad.underlying20
  a20 := Ybad.isAgg20
  z20 := Ybad.sizeOf20
  v20 := Ybad.zeroValue20
  t37 := Ybad.underlying22
  a37 := Ybad.isAgg22
  z37 := Ybad.sizeOf22
  v37 := Ybad.zeroValue22
  t46 := Ybad.underlying34
  a46 := Ybad.isAgg34
  z46 := Ybad.sizeOf34
  v46 := Ybad.zeroValue34
  t51 := Ybad.underlying57
  a51 := Ybad.isAgg57
  z51 := Ybad.sizeOf57
  v51 := Ybad.zeroValue57
  t53 := Ybad.underlying33
  a53 := Ybad.isAgg33
  z53 := Ybad.sizeOf33
  v53 := Ybad.zeroValue33
  t171 := Ybad.underlying49
  a171 := Ybad.isAgg49
  z171 := Ybad.sizeOf49
  v171 := Ybad.zeroValue49
  t173 := Ybad.underlying52
  a173 := Ybad.isAgg52
  z173 := Ybad.sizeOf52
  v173 := Ybad.zeroValue52
  t212 := Ybad.underlying56
  a212 := Ybad.isAgg56
  z212 := Ybad.sizeOf56
  v212 := Ybad.zeroValue56
  t213 := Ybad.underlying58
  a213 := Ybad.isAgg58
  z213 := Ybad.sizeOf58
  t232 := Ybad.underlying62
  a232 := Ybad.isAgg62
  z232 := Ybad.sizeOf62
  v232 := Ybad.zeroValue62
  t233 := Ybad.underlying63
  a233 := Ybad.isAgg63
  z233 := Ybad.sizeOf63
  v233 := Ybad.zeroValue63
  g17 := by kernel_rfl
  g18 := by kernel_rfl
  g19 := by kernel_rfl
  i0 := by kernel_rfl
  i2 := by kernel_rfl
  i3 := by kernel_rfl
  i4 := by kernel_rfl
  i5 := by kernel_rfl
  i9 := by kernel_rfl
  i20 := by kernel_rfl
  i37 := by kernel_rfl
  i46 := by kernel_rfl
  i51 := by kernel_rfl
  i53 := by kernel_rfl
  i171 := by kernel_rfl
  i173 := by kernel_rfl
  i212 := by kernel_rfl
  i232 := by kernel_rfl
  i233 := by kernel_rfl
  m17 := by kernel_rfl
  m18 := by kernel_rfl
  m19 := by kernel_rfl }
open Go.RowKit Go.Sort Go.Lib in
/-- strconv.Itoa: "Itoa is equivalent to FormatInt(int64(i), 10).": i's DECIMAL NUMERAL ('Lib.itoa': a '-' where i is negative, then the digits), FOR EVERY int. The world behind the call: the world before it, new blocks behind the heap (the library's 'var a [24]byte'), draws. (LAID: no walk: one application.) -/
theorem Ybad.strconv_Itoa (n : Int) (h0 : -9223372036854775808 ≤ n) (h1 : n ≤ 9223372036854775807) (w : World) (htab : Lib.TabIs Ybad.prog w "internal/strconv.uint64pow10" .u64 Lib.pow10Tab) :
    Calls Ybad.prog 11 #[.int .i64 n] w fun e w' => e = .returned (.string ⟨(Lib.itoa n).toArray⟩) ∧ ∃ k os, w' = grow (w.drewN k) os := Any.strconv_Itoa Ybad.laysM171 n h0 h1 w htab
def Ybad.laysBin45_ren : Go.Shelf.Ren := ⟨fun | 45 => 12 | n => n, fun | 22 => 22 | 33 => 33 | 3 => 3 | 45 => 34 | 0 => 0 | 5 => 5 | 4 => 4 | n => n, fun | n => n⟩
theorem Ybad.laysBin45 : Go.Proofs.LaysBin.n45 Ybad.prog Ybad.laysBin45_ren := {
  mixed := by kernel_rfl
  f45 := Ybad.func12.trans (congrArg some (by kernel_rfl))
  t0 := Ybad.underlying0
  a0 := Ybad.isAgg0
  z0 := Ybad.sizeOf0
  v0 := Ybad.zeroValue0
  i0 := by kernel_rfl
  t3 := Ybad.underlying3
  a3 := Ybad.isAgg3
  z3 := Ybad.sizeOf3
  v3 := Ybad.zeroValue3
  i3 := by kernel_rfl
  t4 := Ybad.underlying4
  a4 := Ybad.isAgg4
  z4 := Ybad.sizeOf4
  v4 := Ybad.zeroValue4
  i4 := by kernel_rfl
  t5 := Ybad.underlying5
  a5 := Ybad.isAgg5
  z5 := Ybad.sizeOf5
  v5 := Ybad.zeroValue5
  i5 := by kernel_rfl
  t22 := Ybad.underlying22
  a22 := Ybad.isAgg22
  z22 := Ybad.sizeOf22
  v22 := Ybad.zeroValue22
  i22 := by kernel_rfl
  t33 := Ybad.underlying33
  a33 := Ybad.isAgg33
  z33 := Ybad.sizeOf33
  v33 := Ybad.zeroValue33
  i33 := by kernel_rfl
  t45 := Ybad.underlying34
  a45 := Ybad.isAgg34
  z45 := Ybad.sizeOf34
  v45 := Ybad.zeroValue34
  i45 := by kernel_rfl }
open Go.RowKit in
/-- binary.Uvarint: "Uvarint decodes a uint64 from buf and returns that value and the number of bytes read (> 0). If an error occurred, the value is 0 and the number of bytes n is <= 0 meaning: n == 0: buf too small; n < 0: value larger than 64 bits (overflow) and -n is the number of bytes read.": 'Lib.uvarintDec' OF buf's BYTES, both results. The world is as it was. (LAID: no walk: one application.) -/
theorem Ybad.binary_Uvarint (g o n c : Nat) (l : List UInt8) (w : World) (hl : l.length = n) (hcell : ∀ j (hj : j < l.length), w.cell? ⟨g, o + j, none⟩ = some (.int .u8 (l[j]).toNat)) :
    Calls Ybad.prog 12 #[.slice (some ⟨g, o, none⟩) n c] w fun e w' => e = .returned (.tuple #[.int .u64 (Lib.uvarintDec l).1, .int .i64 (Lib.uvarintDec l).2]) ∧ w' = w := Any.binary_Uvarint Ybad.laysBin45 g o n c l w hl hcell
open Go.RowKit in
/-- binary.Uvarint AT A SLICE WITHOUT ELEMENTS, nil too: (0, 0): "buf too small": 'Lib.uvarintDec []'. The world is as it was. (LAID: no walk: one application.) -/
theorem Ybad.binary_Uvarint_empty (ao : Option Addr) (c : Nat) (w : World) :
    Calls Ybad.prog 12 #[.slice ao 0 c] w fun e w' => e = .returned (.tuple #[.int .u64 (Lib.uvarintDec []).1, .int .i64 (Lib.uvarintDec []).2]) ∧ w' = w := Any.binary_Uvarint_empty Ybad.laysBin45 ao c w
end Go.Proofs
