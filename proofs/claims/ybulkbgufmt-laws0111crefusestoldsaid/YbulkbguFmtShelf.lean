/-
  DERIVED: THE SHELF's CONTRACTS AT THIS DUMP, IN PLAIN WORDS (tools/lay-plain.mjs out of 'YbafShelf.lean', which tools/lay-shelf.mjs wrote): THE SAME DECLARATIONS UNDER THE SAME NAMES: 'import', 'namespace', 'open', 'def', 'theorem' AND NOTHING ELSE: no command of the shelf's: FOR A HAND-IN. Each laying: the table of numbers ('.._ren') and one theorem, a field a fact of the dump's own or the kernel's comparison; each contract: ONE APPLICATION.
-/
import Derived.Shelf.Strings.Builder1
import Derived.Shelf.Strings.Builder2
import Derived.Shelf.Strings.BuilderF
import Derived.Shelf.Strconv.Itoa0
import Derived.Shelf.Strconv.Itoa1
import Derived.Shelf.LaysM
import Derived.Shelf.Strconv.Itoa2
import Derived.Shelf.Strconv.Itoa3
import Derived.Shelf.Bin.AppendUvarint
import Derived.Shelf.Bin.Uvarint
import Derived.Shelf.Bin.UvarintEmpty
import Derived.Shelf.Sort.Plain
import Derived.Shelf.Bin.AppendUvarintArg
import Derived.Shelf.Strings.Prefix
import Derived.Shelf.Bits.Mul64
import Derived.Shelf.Strings.Repeat
import Derived.Shelf.Slices.CompactS
import Derived.Shelf.Slices.Cells
import Derived.Shelf.Slices.In.SortNone
import Derived.Test.YbulkbguFmtProg
namespace Go.Proofs
open Go.Shelf
def Ybaf.laysM171_ren : Go.Shelf.Ren := ⟨fun | 171 => 46 | 243 => 61 | 246 => 68 | 283 => 70 | 284 => 71 | 285 => 72 | 286 => 73 | 129 => 60 | 317 => 74 | 318 => 75 | 319 => 76 | 320 => 77 | 337 => 78 | 338 => 79 | n => n, fun | 3 => 3 | 9 => 9 | 2 => 2 | 4 => 4 | 171 => 135 | 0 => 0 | 53 => 22 | 37 => 35 | 5 => 5 | 173 => 137 | 212 => 141 | 51 => 81 | 20 => 20 | 213 => 142 | 46 => 54 | 232 => 144 | 233 => 145 | n => n, fun | 17 => 2 | 18 => 3 | 19 => 4 | n => n⟩
theorem Ybaf.laysM171 : Go.Proofs.LaysM.n171 Ybaf.prog Ybaf.laysM171_ren := {
  mixed := by kernel_rfl
  f129 := Ybaf.func60.trans (congrArg some (by kernel_rfl))
  f171 := Ybaf.func46.trans (congrArg some (by kernel_rfl))
  f243 := Ybaf.func61.trans (congrArg some (by kernel_rfl))
  f246 := Ybaf.func68.trans (congrArg some (by kernel_rfl))
  f283 := Ybaf.func70.trans (congrArg some (by kernel_rfl))
  f284 := Ybaf.func71.trans (congrArg some (by kernel_rfl))
  f285 := Ybaf.func72.trans (congrArg some (by kernel_rfl))
  f286 := Ybaf.func73.trans (congrArg some (by kernel_rfl))
  f317 := Ybaf.func74.trans (congrArg some (by kernel_rfl))
  f318 := Ybaf.func75.trans (congrArg some (by kernel_rfl))
  f319 := Ybaf.func76.trans (congrArg some (by kernel_rfl))
  f320 := Ybaf.func77.trans (congrArg some (by kernel_rfl))
  f337 := Ybaf.func78.trans (congrArg some (by kernel_rfl))
  f338 := Ybaf.func79.trans (congrArg some (by kernel_rfl))
  t0 := Ybaf.underlying0
  a0 := Ybaf.isAgg0
  z0 := Ybaf.sizeOf0
  v0 := Ybaf.zeroValue0
  t2 := Ybaf.underlying2
  a2 := Ybaf.isAgg2
  z2 := Ybaf.sizeOf2
  v2 := Ybaf.zeroValue2
  t3 := Ybaf.underlying3
  a3 := Ybaf.isAgg3
  z3 := Ybaf.sizeOf3
  v3 := Ybaf.zeroValue3
  t4 := Ybaf.underlying4
  a4 := Ybaf.isAgg4
  z4 := Ybaf.sizeOf4
  v4 := Ybaf.zeroValue4
  t5 := Ybaf.underlying5
  a5 := Ybaf.isAgg5
  z5 := Ybaf.sizeOf5
  v5 := Ybaf.zeroValue5
  t9 := Ybaf.underlying9
  a9 := Ybaf.isAgg9
  z9 := Ybaf.sizeOf9
  v9 := Ybaf.zeroValue9
  t20 := Ybaf.underlying20
  a20 := Ybaf.isAgg20
  z20 := Ybaf.sizeOf20
  v20 := Ybaf.zeroValue20
  t37 := Ybaf.underlying35
  a37 := Ybaf.isAgg35
  z37 := Ybaf.sizeOf35
  v37 := Ybaf.zeroValue35
  t46 := Ybaf.underlying54
  a46 := Ybaf.isAgg54
  z46 := Ybaf.sizeOf54
  v46 := Ybaf.zeroValue54
  t51 := Ybaf.underlying81
  a51 := Ybaf.isAgg81
  z51 := Ybaf.sizeOf81
  v51 := Ybaf.zeroValue81
  t53 := Ybaf.underlying22
  a53 := Ybaf.isAgg22
  z53 := Ybaf.sizeOf22
  v53 := Ybaf.zeroValue22
  t171 := Ybaf.underlying135
  a171 := Ybaf.isAgg135
  z171 := Ybaf.sizeOf135
  v171 := Ybaf.zeroValue135
  t173 := Ybaf.underlying137
  a173 := Ybaf.isAgg137
  z173 := Ybaf.sizeOf137
  v173 := Ybaf.zeroValue137
  t212 := Ybaf.underlying141
  a212 := Ybaf.isAgg141
  z212 := Ybaf.sizeOf141
  v212 := Ybaf.zeroValue141
  t213 := Ybaf.underlying142
  a213 := Ybaf.isAgg142
  z213 := Ybaf.sizeOf142
  t232 := Ybaf.underlying144
  a232 := Ybaf.isAgg144
  z232 := Ybaf.sizeOf144
  v232 := Ybaf.zeroValue144
  t233 := Ybaf.underlying145
  a233 := Ybaf.isAgg145
  z233 := Ybaf.sizeOf145
  v233 := Ybaf.zeroValue145
  g17 := by kernel_rfl
  g18 := by kernel_rfl
  g19 := by kernel_rfl
  i0 := by kernel_rfl
  i2 := by kernel_rfl
  i3 := by kernel_rfl
  i4 := by kernel_rfl
  i5 := by kernel_rfl
  i9 := by kernel_rfl
  i20 := by kernel_rfl
  i37 := by kernel_rfl
  i46 := by kernel_rfl
  i51 := by kernel_rfl
  i53 := by kernel_rfl
  i171 := by kernel_rfl
  i173 := by kernel_rfl
  i212 := by kernel_rfl
  i232 := by kernel_rfl
  i233 := by kernel_rfl
  m17 := by kernel_rfl
  m18 := by kernel_rfl
  m19 := by kernel_rfl }
open Go.RowKit Go.Sort Go.Lib in
/-- strconv.Itoa: "Itoa is equivalent to FormatInt(int64(i), 10).": i's DECIMAL NUMERAL ('Lib.itoa': a '-' where i is negative, then the digits), FOR EVERY int. The world behind the call: the world before it, new blocks behind the heap (the library's 'var a [24]byte'), draws. (LAID: no walk: one application.) -/
theorem Ybaf.strconv_Itoa (n : Int) (h0 : -9223372036854775808 ≤ n) (h1 : n ≤ 9223372036854775807) (w : World) (htab : Lib.TabIs Ybaf.prog w "internal/strconv.uint64pow10" .u64 Lib.pow10Tab) :
    Calls Ybaf.prog 46 #[.int .i64 n] w fun e w' => e = .returned (.string ⟨(Lib.itoa n).toArray⟩) ∧ ∃ k os, w' = grow (w.drewN k) os := Any.strconv_Itoa Ybaf.laysM171 n h0 h1 w htab
def Ybaf.laysBin47_ren : Go.Shelf.Ren := ⟨fun | 47 => 29 | n => n, fun | 22 => 35 | 33 => 22 | 4 => 4 | 5 => 5 | 45 => 54 | n => n, fun | n => n⟩
theorem Ybaf.laysBin47 : Go.Proofs.LaysBin.n47 Ybaf.prog Ybaf.laysBin47_ren := {
  mixed := by kernel_rfl
  f47 := Ybaf.func29.trans (congrArg some (by kernel_rfl))
  t4 := Ybaf.underlying4
  a4 := Ybaf.isAgg4
  z4 := Ybaf.sizeOf4
  v4 := Ybaf.zeroValue4
  i4 := by kernel_rfl
  t5 := Ybaf.underlying5
  a5 := Ybaf.isAgg5
  z5 := Ybaf.sizeOf5
  v5 := Ybaf.zeroValue5
  i5 := by kernel_rfl
  t22 := Ybaf.underlying35
  a22 := Ybaf.isAgg35
  z22 := Ybaf.sizeOf35
  v22 := Ybaf.zeroValue35
  i22 := by kernel_rfl
  t33 := Ybaf.underlying22
  a33 := Ybaf.isAgg22
  z33 := Ybaf.sizeOf22
  v33 := Ybaf.zeroValue22
  i33 := by kernel_rfl
  t45 := Ybaf.underlying54
  a45 := Ybaf.isAgg54
  z45 := Ybaf.sizeOf54
  v45 := Ybaf.zeroValue54
  i45 := by kernel_rfl }
open Go.RowKit in
/-- binary.AppendUvarint: "AppendUvarint appends the varint-encoded form of x, as generated by PutUvarint, to buf and returns the extended buffer.": WHAT COMES BACK OWNS buf's CELLS AND, BEHIND THEM, x's VARINT ('Lib.uvarint x': seven bits a byte, the least first; at most ten bytes). Below the call's own blocks nothing has turned. (LAID: no walk: one application.) -/
theorem Ybaf.binary_AppendUvarint (B n x : Nat) (hx : x < 18446744073709551616) (sv : Value) (xs : List Value) (w : World) (hown : w.ownsRow B 5 1 sv n xs) (hBw : B ≤ w.heap.size) (hlim : n + 10 ≤ 140737488355328) :
    Calls Ybaf.prog 29 #[sv, .int .u64 x] w fun e w' => ∃ v', e = .returned v' ∧ w'.ownsRow B 5 1 v' (n + (Lib.uvarint x).length) (xs ++ Lib.byteCells (Lib.uvarint x)) ∧ Below B w w' := Any.binary_AppendUvarint Ybaf.laysBin47 B n x hx sv xs w hown hBw hlim
def Ybaf.laysBin45_ren : Go.Shelf.Ren := ⟨fun | 45 => 47 | n => n, fun | 22 => 35 | 33 => 22 | 3 => 3 | 45 => 54 | 0 => 0 | 5 => 5 | 4 => 4 | n => n, fun | n => n⟩
theorem Ybaf.laysBin45 : Go.Proofs.LaysBin.n45 Ybaf.prog Ybaf.laysBin45_ren := {
  mixed := by kernel_rfl
  f45 := Ybaf.func47.trans (congrArg some (by kernel_rfl))
  t0 := Ybaf.underlying0
  a0 := Ybaf.isAgg0
  z0 := Ybaf.sizeOf0
  v0 := Ybaf.zeroValue0
  i0 := by kernel_rfl
  t3 := Ybaf.underlying3
  a3 := Ybaf.isAgg3
  z3 := Ybaf.sizeOf3
  v3 := Ybaf.zeroValue3
  i3 := by kernel_rfl
  t4 := Ybaf.underlying4
  a4 := Ybaf.isAgg4
  z4 := Ybaf.sizeOf4
  v4 := Ybaf.zeroValue4
  i4 := by kernel_rfl
  t5 := Ybaf.underlying5
  a5 := Ybaf.isAgg5
  z5 := Ybaf.sizeOf5
  v5 := Ybaf.zeroValue5
  i5 := by kernel_rfl
  t22 := Ybaf.underlying35
  a22 := Ybaf.isAgg35
  z22 := Ybaf.sizeOf35
  v22 := Ybaf.zeroValue35
  i22 := by kernel_rfl
  t33 := Ybaf.underlying22
  a33 := Ybaf.isAgg22
  z33 := Ybaf.sizeOf22
  v33 := Ybaf.zeroValue22
  i33 := by kernel_rfl
  t45 := Ybaf.underlying54
  a45 := Ybaf.isAgg54
  z45 := Ybaf.sizeOf54
  v45 := Ybaf.zeroValue54
  i45 := by kernel_rfl }
open Go.RowKit in
/-- binary.Uvarint: "Uvarint decodes a uint64 from buf and returns that value and the number of bytes read (> 0). If an error occurred, the value is 0 and the number of bytes n is <= 0 meaning: n == 0: buf too small; n < 0: value larger than 64 bits (overflow) and -n is the number of bytes read.": 'Lib.uvarintDec' OF buf's BYTES, both results. The world is as it was. (LAID: no walk: one application.) -/
theorem Ybaf.binary_Uvarint (g o n c : Nat) (l : List UInt8) (w : World) (hl : l.length = n) (hcell : ∀ j (hj : j < l.length), w.cell? ⟨g, o + j, none⟩ = some (.int .u8 (l[j]).toNat)) :
    Calls Ybaf.prog 47 #[.slice (some ⟨g, o, none⟩) n c] w fun e w' => e = .returned (.tuple #[.int .u64 (Lib.uvarintDec l).1, .int .i64 (Lib.uvarintDec l).2]) ∧ w' = w := Any.binary_Uvarint Ybaf.laysBin45 g o n c l w hl hcell
open Go.RowKit in
/-- binary.Uvarint AT A SLICE WITHOUT ELEMENTS, nil too: (0, 0): "buf too small": 'Lib.uvarintDec []'. The world is as it was. (LAID: no walk: one application.) -/
theorem Ybaf.binary_Uvarint_empty (ao : Option Addr) (c : Nat) (w : World) :
    Calls Ybaf.prog 47 #[.slice ao 0 c] w fun e w' => e = .returned (.tuple #[.int .u64 (Lib.uvarintDec []).1, .int .i64 (Lib.uvarintDec []).2]) ∧ w' = w := Any.binary_Uvarint_empty Ybaf.laysBin45 ao c w
def Ybaf.lays190_ren : Go.Shelf.Ren := ⟨fun | 190 => 27 | 125 => 43 | 258 => 42 | 128 => 59 | 129 => 60 | 302 => 50 | 303 => 51 | 304 => 52 | 305 => 53 | 306 => 54 | 307 => 55 | 308 => 56 | 309 => 57 | 310 => 58 | 333 => 62 | 329 => 63 | 330 => 64 | 334 => 65 | 335 => 66 | 336 => 67 | 344 => 69 | n => n, fun | 31 => 33 | 9 => 9 | 3 => 3 | 46 => 54 | 0 => 0 | 51 => 81 | 53 => 22 | 4 => 4 | 183 => 116 | 182 => 115 | 131 => 120 | 5 => 5 | 218 => 124 | 222 => 128 | 228 => 132 | 229 => 133 | n => n, fun | n => n⟩
theorem Ybaf.lays190 : Go.Proofs.Lays.n190 Ybaf.prog Ybaf.lays190_ren := {
  mixed := by kernel_rfl
  f125 := Ybaf.func43.trans (congrArg some (by kernel_rfl))
  f128 := Ybaf.func59.trans (congrArg some (by kernel_rfl))
  f129 := Ybaf.func60.trans (congrArg some (by kernel_rfl))
  f190 := Ybaf.func27.trans (congrArg some (by kernel_rfl))
  f258 := Ybaf.func42.trans (congrArg some (by kernel_rfl))
  f302 := Ybaf.func50.trans (congrArg some (by kernel_rfl))
  f303 := Ybaf.func51.trans (congrArg some (by kernel_rfl))
  f304 := Ybaf.func52.trans (congrArg some (by kernel_rfl))
  f305 := Ybaf.func53.trans (congrArg some (by kernel_rfl))
  f306 := Ybaf.func54.trans (congrArg some (by kernel_rfl))
  f307 := Ybaf.func55.trans (congrArg some (by kernel_rfl))
  f308 := Ybaf.func56.trans (congrArg some (by kernel_rfl))
  f309 := Ybaf.func57.trans (congrArg some (by kernel_rfl))
  f310 := Ybaf.func58.trans (congrArg some (by kernel_rfl))
  f329 := Ybaf.func63.trans (congrArg some (by kernel_rfl))
  f330 := Ybaf.func64.trans (congrArg some (by kernel_rfl))
  f333 := Ybaf.func62.trans (congrArg some (by kernel_rfl))
  f334 := Ybaf.func65.trans (congrArg some (by kernel_rfl))
  f335 := Ybaf.func66.trans (congrArg some (by kernel_rfl))
  f336 := Ybaf.func67.trans (congrArg some (by kernel_rfl))
  f344 := Ybaf.func69.trans (congrArg some (by kernel_rfl))
  t0 := Ybaf.underlying0
  a0 := Ybaf.isAgg0
  z0 := Ybaf.sizeOf0
  v0 := Ybaf.zeroValue0
  t3 := Ybaf.underlying3
  a3 := Ybaf.isAgg3
  z3 := Ybaf.sizeOf3
  v3 := Ybaf.zeroValue3
  t4 := Ybaf.underlying4
  a4 := Ybaf.isAgg4
  z4 := Ybaf.sizeOf4
  v4 := Ybaf.zeroValue4
  t5 := Ybaf.underlying5
  a5 := Ybaf.isAgg5
  z5 := Ybaf.sizeOf5
  v5 := Ybaf.zeroValue5
  t9 := Ybaf.underlying9
  a9 := Ybaf.isAgg9
  z9 := Ybaf.sizeOf9
  v9 := Ybaf.zeroValue9
  t31 := Ybaf.underlying33
  a31 := Ybaf.isAgg33
  z31 := Ybaf.sizeOf33
  v31 := Ybaf.zeroValue33
  t46 := Ybaf.underlying54
  a46 := Ybaf.isAgg54
  z46 := Ybaf.sizeOf54
  v46 := Ybaf.zeroValue54
  t51 := Ybaf.underlying81
  a51 := Ybaf.isAgg81
  z51 := Ybaf.sizeOf81
  v51 := Ybaf.zeroValue81
  t53 := Ybaf.underlying22
  a53 := Ybaf.isAgg22
  z53 := Ybaf.sizeOf22
  v53 := Ybaf.zeroValue22
  t131 := Ybaf.underlying120
  a131 := Ybaf.isAgg120
  z131 := Ybaf.sizeOf120
  v131 := Ybaf.zeroValue120
  t182 := Ybaf.underlying115
  a182 := Ybaf.isAgg115
  z182 := Ybaf.sizeOf115
  v182 := Ybaf.zeroValue115
  t183 := Ybaf.underlying116
  a183 := Ybaf.isAgg116
  z183 := Ybaf.sizeOf116
  v183 := Ybaf.zeroValue116
  t218 := Ybaf.underlying124
  a218 := Ybaf.isAgg124
  z218 := Ybaf.sizeOf124
  v218 := Ybaf.zeroValue124
  t222 := Ybaf.underlying128
  a222 := Ybaf.isAgg128
  z222 := Ybaf.sizeOf128
  v222 := Ybaf.zeroValue128
  t228 := Ybaf.underlying132
  a228 := Ybaf.isAgg132
  z228 := Ybaf.sizeOf132
  v228 := Ybaf.zeroValue132
  t229 := Ybaf.underlying133
  a229 := Ybaf.isAgg133
  z229 := Ybaf.sizeOf133
  v229 := Ybaf.zeroValue133 }
open Go.Sort Go.RowKit in
theorem Ybaf.slices_Sort_string (blk off cap : Nat) (ss : List (List UInt8)) (w : World) (hH : Holds encStr w blk off ss.toArray) (hblk : blk < w.heap.size) (hsz : ss.length < 4611686018427387904) :
    Calls Ybaf.prog 27 #[.slice (some ⟨blk, off, none⟩) ss.length cap] w fun e w' =>
      e = .returned (.tuple #[]) ∧ ∃ n os, w' = grow (putRow encStr (Sort.ahead w n) blk off (ss.mergeSort fun x y => decide (x ≤ y)).toArray) os := Any.slices_Sort_string Ybaf.lays190 blk off cap ss w hH hblk hsz
open Go.RowKit in
/-- binary.AppendUvarint, buf A SLICE THAT CAME IN ('Came W0 ..'), onto which m bytes ('ks') have been appended so far: BEHIND THE CALL: x's VARINT BESIDES ('Lib.uvarint x': at most ten bytes). (LAID: no walk: one application.) -/
theorem Ybaf.binary_AppendUvarint_arg (W0 : World) (ao : Option Addr) (b off len cap : Nat) (olds : List Value) (hc : Came W0 1 ao b off len cap olds) (x : Nat) (hx : x < 18446744073709551616) (sv : Value) (m : Nat) (ks : List Value) (w : World) (honto : Onto W0 5 1 ao b off len cap olds w sv m ks) (hlim : len + m + 10 ≤ 140737488355328) :
    Calls Ybaf.prog 29 #[sv, .int .u64 x] w fun e w' => ∃ v', e = .returned v' ∧ Onto W0 5 1 ao b off len cap olds w' v' (m + (Lib.uvarint x).length) (ks ++ Lib.byteCells (Lib.uvarint x)) := Any.binary_AppendUvarint_arg Ybaf.laysBin47 W0 ao b off len cap olds hc x hx sv m ks w honto hlim
def Ybaf.lays105_ren : Go.Shelf.Ren := ⟨fun | 105 => 9 | 212 => 18 | 99 => 19 | 165 => 20 | 166 => 21 | 170 => 22 | 169 => 23 | 263 => 35 | 264 => 36 | 206 => 37 | 240 => 38 | 241 => 39 | 276 => 48 | 277 => 49 | n => n, fun | 9 => 9 | 3 => 3 | 4 => 4 | 20 => 20 | 0 => 0 | 46 => 54 | 109 => 55 | 5 => 5 | 72 => 60 | 76 => 62 | 51 => 81 | 146 => 82 | 53 => 22 | 148 => 84 | 70 => 58 | 37 => 35 | 75 => 27 | 127 => 86 | 164 => 108 | 80 => 65 | n => n, fun | n => n⟩
theorem Ybaf.lays105 : Go.Proofs.Lays.n105 Ybaf.prog Ybaf.lays105_ren := {
  mixed := by kernel_rfl
  f99 := Ybaf.func19.trans (congrArg some (by kernel_rfl))
  f105 := Ybaf.func9.trans (congrArg some (by kernel_rfl))
  f165 := Ybaf.func20.trans (congrArg some (by kernel_rfl))
  f166 := Ybaf.func21.trans (congrArg some (by kernel_rfl))
  f169 := Ybaf.func23.trans (congrArg some (by kernel_rfl))
  f170 := Ybaf.func22.trans (congrArg some (by kernel_rfl))
  f206 := Ybaf.func37.trans (congrArg some (by kernel_rfl))
  f212 := Ybaf.func18.trans (congrArg some (by kernel_rfl))
  f240 := Ybaf.func38.trans (congrArg some (by kernel_rfl))
  f241 := Ybaf.func39.trans (congrArg some (by kernel_rfl))
  f263 := Ybaf.func35.trans (congrArg some (by kernel_rfl))
  f264 := Ybaf.func36.trans (congrArg some (by kernel_rfl))
  f276 := Ybaf.func48.trans (congrArg some (by kernel_rfl))
  f277 := Ybaf.func49.trans (congrArg some (by kernel_rfl))
  t0 := Ybaf.underlying0
  a0 := Ybaf.isAgg0
  z0 := Ybaf.sizeOf0
  v0 := Ybaf.zeroValue0
  t3 := Ybaf.underlying3
  a3 := Ybaf.isAgg3
  z3 := Ybaf.sizeOf3
  v3 := Ybaf.zeroValue3
  t4 := Ybaf.underlying4
  a4 := Ybaf.isAgg4
  z4 := Ybaf.sizeOf4
  v4 := Ybaf.zeroValue4
  t5 := Ybaf.underlying5
  a5 := Ybaf.isAgg5
  z5 := Ybaf.sizeOf5
  v5 := Ybaf.zeroValue5
  t9 := Ybaf.underlying9
  a9 := Ybaf.isAgg9
  z9 := Ybaf.sizeOf9
  v9 := Ybaf.zeroValue9
  t20 := Ybaf.underlying20
  a20 := Ybaf.isAgg20
  z20 := Ybaf.sizeOf20
  v20 := Ybaf.zeroValue20
  t37 := Ybaf.underlying35
  a37 := Ybaf.isAgg35
  z37 := Ybaf.sizeOf35
  v37 := Ybaf.zeroValue35
  t46 := Ybaf.underlying54
  a46 := Ybaf.isAgg54
  z46 := Ybaf.sizeOf54
  v46 := Ybaf.zeroValue54
  t51 := Ybaf.underlying81
  a51 := Ybaf.isAgg81
  z51 := Ybaf.sizeOf81
  v51 := Ybaf.zeroValue81
  t53 := Ybaf.underlying22
  a53 := Ybaf.isAgg22
  z53 := Ybaf.sizeOf22
  v53 := Ybaf.zeroValue22
  t70 := Ybaf.underlying58
  a70 := Ybaf.isAgg58
  z70 := Ybaf.sizeOf58
  v70 := Ybaf.zeroValue58
  t72 := Ybaf.underlying60
  a72 := Ybaf.isAgg60
  z72 := Ybaf.sizeOf60
  v72 := Ybaf.zeroValue60
  t75 := Ybaf.underlying27
  a75 := Ybaf.isAgg27
  z75 := Ybaf.sizeOf27
  v75 := Ybaf.zeroValue27
  t76 := Ybaf.underlying62
  a76 := Ybaf.isAgg62
  z76 := Ybaf.sizeOf62
  v76 := Ybaf.zeroValue62
  t109 := Ybaf.underlying55
  a109 := Ybaf.isAgg55
  z109 := Ybaf.sizeOf55
  v109 := Ybaf.zeroValue55
  t127 := Ybaf.underlying86
  a127 := Ybaf.isAgg86
  z127 := Ybaf.sizeOf86
  v127 := Ybaf.zeroValue86
  t146 := Ybaf.underlying82
  a146 := Ybaf.isAgg82
  z146 := Ybaf.sizeOf82
  v146 := Ybaf.zeroValue82
  t148 := Ybaf.underlying84
  a148 := Ybaf.isAgg84
  z148 := Ybaf.sizeOf84
  v148 := Ybaf.zeroValue84
  t164 := Ybaf.underlying108
  a164 := Ybaf.isAgg108
  z164 := Ybaf.sizeOf108
  v164 := Ybaf.zeroValue108 }
theorem Ybaf.Builder_Extra_105 : Builder.Extra Ybaf.prog Ybaf.lays105_ren := {
  sizeBuilder := by kernel_rfl
  liesBuilder := by kernel_rfl
  t5 := Ybaf.underlying5
  a5 := Ybaf.isAgg5
  z5 := Ybaf.sizeOf5
  v5 := Ybaf.zeroValue5
  infoByte := by kernel_rfl
  cellsByte := by kernel_rfl
  sizeByte := by kernel_rfl
  neB5 := by decide }
open Go.RowKit Go.Lib in
/-- THE MAIN CASE: at least two copies of a string that is not empty. (LAID: no walk: one application.) -/
theorem Ybaf.strings_Repeat_main (s : ByteArray) (c : Nat) (w : World) (hc2 : 2 ≤ c) (hc : c ≤ 9223372036854775807) (hlen : s.size * c ≤ 140737488355328) (h0 : 0 < s.size) :
    Calls Ybaf.prog 9 #[.string s, .int .i64 c] w fun e w' => e = .returned (.string ⟨(Lib.repeatL s.data.toList c).toArray⟩) ∧ Below w.heap.size w w' := Any.strings_Repeat_main Ybaf.lays105 Ybaf.Builder_Extra_105 s c w hc2 hc hlen h0
open Go.RowKit Go.Lib in
theorem Ybaf.strings_Repeat_zero (s : ByteArray) (w : World) :
    Calls Ybaf.prog 9 #[.string s, .int .i64 0] w fun e w' => e = .returned (.string ⟨#[]⟩) ∧ w' = w := Any.strings_Repeat_zero Ybaf.lays105 s w
open Go.RowKit Go.Lib in
theorem Ybaf.strings_Repeat_one (s : ByteArray) (w : World) :
    Calls Ybaf.prog 9 #[.string s, .int .i64 1] w fun e w' => e = .returned (.string s) ∧ w' = w := Any.strings_Repeat_one Ybaf.lays105 s w
open Go.RowKit Go.Lib in
/-- Copies of the empty string. (LAID: no walk: one application.) -/
theorem Ybaf.strings_Repeat_empty (s : ByteArray) (c : Nat) (w : World) (hc2 : 2 ≤ c) (hc : c ≤ 9223372036854775807) (h0 : s.size = 0) :
    Calls Ybaf.prog 9 #[.string s, .int .i64 c] w fun e w' => e = .returned (.string ⟨#[]⟩) ∧ w' = w := Any.strings_Repeat_empty Ybaf.lays105 s c w hc2 hc h0
open Go.RowKit Go.Lib in
/-- count < 0: "It panics if count is negative". (LAID: no walk: one application.) -/
theorem Ybaf.strings_Repeat_negative (s : ByteArray) (c : Int) (w : World) (hc : c < 0) :
    Calls Ybaf.prog 9 #[.string s, .int .i64 c] w fun e w' => e = .panicked [{ v := repeatPanic Ybaf.lays105_ren "strings: negative Repeat count", recovered := false }] ∧ w' = w := Any.strings_Repeat_negative Ybaf.lays105 s c w hc
open Go.RowKit Go.Lib in
/-- len(s) * count is no int: ".. or if the result of (len(s) * count) overflows". (LAID: no walk: one application.) -/
theorem Ybaf.strings_Repeat_overflow (s : ByteArray) (c : Nat) (w : World) (hc : c ≤ 9223372036854775807) (hs : s.size ≤ 9223372036854775807) (hbig : 9223372036854775807 < s.size * c) :
    Calls Ybaf.prog 9 #[.string s, .int .i64 c] w fun e w' => e = .panicked [{ v := repeatPanic Ybaf.lays105_ren "strings: Repeat output length overflow", recovered := false }] ∧ w' = w := Any.strings_Repeat_overflow Ybaf.lays105 s c w hc hs hbig
open Go.RowKit Go.Lib in
/-- **strings.Repeat: count ≥ 0, the result within one allocation: count copies of s.** (LAID: no walk: one application.) -/
theorem Ybaf.strings_Repeat (s : ByteArray) (c : Nat) (w : World) (hc : c ≤ 9223372036854775807) (hlen : s.size * c ≤ 140737488355328) :
    Calls Ybaf.prog 9 #[.string s, .int .i64 c] w fun e w' => e = .returned (.string ⟨(Lib.repeatL s.data.toList c).toArray⟩) ∧ Below w.heap.size w w' := Any.strings_Repeat Ybaf.lays105 Ybaf.Builder_Extra_105 s c w hc hlen
def Ybaf.lays194_ren : Go.Shelf.Ren := ⟨fun | 194 => 28 | n => n, fun | 31 => 33 | 9 => 9 | 3 => 3 | 4 => 4 | 0 => 0 | n => n, fun | n => n⟩
theorem Ybaf.lays194 : Go.Proofs.Lays.n194 Ybaf.prog Ybaf.lays194_ren := {
  mixed := by kernel_rfl
  f194 := Ybaf.func28.trans (congrArg some (by kernel_rfl))
  t0 := Ybaf.underlying0
  a0 := Ybaf.isAgg0
  z0 := Ybaf.sizeOf0
  v0 := Ybaf.zeroValue0
  t3 := Ybaf.underlying3
  a3 := Ybaf.isAgg3
  z3 := Ybaf.sizeOf3
  v3 := Ybaf.zeroValue3
  t4 := Ybaf.underlying4
  a4 := Ybaf.isAgg4
  z4 := Ybaf.sizeOf4
  v4 := Ybaf.zeroValue4
  t9 := Ybaf.underlying9
  a9 := Ybaf.isAgg9
  z9 := Ybaf.sizeOf9
  v9 := Ybaf.zeroValue9
  t31 := Ybaf.underlying33
  a31 := Ybaf.isAgg33
  z31 := Ybaf.sizeOf33
  v31 := Ybaf.zeroValue33 }
open Go.RowKit Go.Lib Go.Sort in
/-- slices.Compact at []string, over an array: the library's two loops are walked. (LAID: no walk: one application.) -/
theorem Ybaf.slices_Compact_string_arr (blk off cap : Nat) (d : Array (List UInt8)) (w : World) (hH : Holds encStr w blk off d) (hsz : d.size ≤ 9223372036854775807) (hcap : d.size ≤ cap) :
    Calls Ybaf.prog 28 #[.slice (some ⟨blk, off, none⟩) d.size cap] w fun e w' => e = .returned (.slice (some ⟨blk, off, none⟩) (compactUpTo d d.size).length cap) ∧ ∃ q, w' = putRow encStr (Sort.ahead w q) blk off (compactUpTo d d.size ++ List.replicate (d.size - (compactUpTo d d.size).length) []).toArray := Any.slices_Compact_string_arr Ybaf.lays194 blk off cap d w hH hsz hcap
open Go.RowKit Go.Lib Go.Sort in
/-- slices.Compact at []string: "Compact replaces consecutive runs of equal elements with a single copy. This is like the uniq command found on Unix. Compact modifies the contents of the slice s and returns the modified slice, which may have a smaller length. Compact zeroes the elements between the new length and the original length. The result preserves the nilness of s.": IT RETURNS THE SLICE CUT TO 'Lib.compact zs'; ITS CELLS HOLD 'Lib.compact zs', THEN ZERO VALUES up to the old length; all else is as it was, but for the count of draws. IN THE WORDS OF slices.Sort's CONTRACT ('Holds', 'putRow'): so the everyday 'slices.Sort(xs); xs = slices.Compact(xs)' goes from the one contract to the other. It asks 'zs.length ≤ cap' (every slice's: the reslicing 's[:k]' looks at it). Length 0, nil: '.._empty'. (LAID: no walk: one application.) -/
theorem Ybaf.slices_Compact_string (blk off cap : Nat) (zs : List (List UInt8)) (w : World) (hH : Holds encStr w blk off zs.toArray) (hsz : zs.length ≤ 9223372036854775807) (hcap : zs.length ≤ cap) :
    Calls Ybaf.prog 28 #[.slice (some ⟨blk, off, none⟩) zs.length cap] w fun e w' => e = .returned (.slice (some ⟨blk, off, none⟩) (Lib.compact zs).length cap) ∧ ∃ q, w' = putRow encStr (Sort.ahead w q) blk off (Lib.compact zs ++ List.replicate (zs.length - (Lib.compact zs).length) []).toArray := Any.slices_Compact_string Ybaf.lays194 blk off cap zs w hH hsz hcap
open Go.RowKit Go.Lib Go.Sort in
/-- The same at a slice of length 0, a nil one too: it comes back as it is. (LAID: no walk: one application.) -/
theorem Ybaf.slices_Compact_string_empty (a : Option Addr) (cap : Nat) (w : World) :
    Calls Ybaf.prog 28 #[.slice a 0 cap] w fun e w' => e = .returned (.slice a 0 cap) ∧ w' = w := Any.slices_Compact_string_empty Ybaf.lays194 a cap w
open Go.RowKit Go.Lib Go.Sort in
/-- slices.Compact at []string, of an argument. (LAID: no walk: one application.) -/
theorem Ybaf.slices_Compact_string_cells (b off n c : Nat) (Sx : Nat → ByteArray) (w : World) (hbig : n ≤ 9223372036854775807) (hcap : n ≤ c) (hc : ∀ i, i < n → w.cell? ⟨b, off + i, none⟩ = some (.string (Sx i))) (hf : ∀ j, j < n → w.frozen? ⟨b, off + j, none⟩ = false) :
    Calls Ybaf.prog 28 #[.slice (some ⟨b, off, none⟩) n c] w fun e w' => e = .returned (.slice (some ⟨b, off, none⟩) (Lib.compact (Lib.strsOf Sx n)).length c) ∧ ∃ q, w' = (w.drewN q).setCells b off ((Lib.compact (Lib.strsOf Sx n) ++ List.replicate (n - (Lib.compact (Lib.strsOf Sx n)).length) []).map encStr) := Any.slices_Compact_string_cells Ybaf.lays194 b off n c Sx w hbig hcap hc hf
open Go.RowKit Go.Sort in
/-- .. and plain. (LAID: no walk: one application.) -/
theorem Ybaf.slices_Sort_string_none (p : Option Addr) (cap : Nat) (w : World) :
    Calls Ybaf.prog 27 #[.slice p 0 cap] w fun e w' => e = .returned (.tuple #[]) ∧ w' = w := Any.slices_Sort_string_none Ybaf.lays190 p cap w
end Go.Proofs
