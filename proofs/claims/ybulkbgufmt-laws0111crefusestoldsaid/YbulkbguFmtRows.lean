/-
  NARROWER THAN 'FOR EVERY INPUT', by the rows' own cells (each row's printed sentence says how): LawS0111AValid: ifaces, laid · LawS0111ANode: ifaces, laid · LawS0111CRoundTrip: ifaces, laid · LawS0111CCanonical: ifaces, laid · LawS0111CRefuses: ifaces, laid.
  DERIVED. THE GIVEN ROWS OF THIS SEAT. 5 by the template 'for every input the law returns true; each argument reads behind the call as it read before'; 0 by the template 'total and deterministic' (their statements: YbulkbguFmtTotals.lean).
  GIVEN WITH THE SEED: the statements are not yours to turn. If you find one false, say at which input.
  Laid BY PROGRAM, IN A SANDBOX (cutbox-rows.mjs): the forced cells as the released guide's own fill.sh prints them over the translation 412ed3482e19bb73… (all of the seat's roots in one cut). By AI agents, Wed Nov 11 2026. No macro, syntax, notation, axiom, sorry.
-/
import Derived.Test.YbulkbguFmtChecked
import GoSem.Claim
import GoSem.ClaimJoined
import GoSem.ClaimMapViews
import Derived.JoinedTies
import Derived.KernelRfl
namespace Go.Proofs.YbulkbguFmt
/- THE CELL 'sum', in the pinned program and in every row, IS THE sha256 OF THE DUMP (.gsa) THAT YbulkbguFmtProg.lean LOADS. Nothing in Lean hashes anything: it is a label: what it is worth is what the hold of that sum in a sandbox is worth. -/
noncomputable def Ybaf.pinned : Pinned := { name := "ybulkbgufmt", sum := "412ed3482e19bb73ff80d4bf5ac44391d28318c30e565dbab51a486fea9582c1", checked := Ybaf.checked }
namespace Rows
def none {H : Type} : Left H := { results := [], args := [] }

/- WHAT THE LISTED PACKAGE-LEVEL VARIABLES READ AS WHEN THE CALL BEGINS. Each datum BY PROGRAM (the guide's laid-datum.mjs) off the statement by which the dump's own 'gosem.cut.vars' lays the variable. In a bare row this is a premise. The card (YbulkbguFmtCards.lean) ties it to the program's text. -/
def laid_example_com_causalis_causalis_ErrInvalidNode {H : Type} : DataW H := .iface "*errors.errorString" (.ptr (.agg [.lit (.string [110, 111, 100, 101, 32, 105, 100, 32, 109, 117, 115, 116, 32, 98, 101, 32, 49, 32, 116, 111, 32, 50, 53, 53, 32, 98, 121, 116, 101, 115])]))
def laid_math_bits_deBruijn32tab {H : Type} : DataW H := .agg [.lit (.int .u8 0), .lit (.int .u8 1), .lit (.int .u8 28), .lit (.int .u8 2), .lit (.int .u8 29), .lit (.int .u8 14), .lit (.int .u8 24), .lit (.int .u8 3), .lit (.int .u8 30), .lit (.int .u8 22), .lit (.int .u8 20), .lit (.int .u8 15), .lit (.int .u8 25), .lit (.int .u8 17), .lit (.int .u8 4), .lit (.int .u8 8), .lit (.int .u8 31), .lit (.int .u8 27), .lit (.int .u8 13), .lit (.int .u8 23), .lit (.int .u8 21), .lit (.int .u8 19), .lit (.int .u8 16), .lit (.int .u8 7), .lit (.int .u8 26), .lit (.int .u8 12), .lit (.int .u8 18), .lit (.int .u8 6), .lit (.int .u8 11), .lit (.int .u8 5), .lit (.int .u8 10), .lit (.int .u8 9)]
def laid_math_bits_deBruijn64tab {H : Type} : DataW H := .agg [.lit (.int .u8 0), .lit (.int .u8 1), .lit (.int .u8 56), .lit (.int .u8 2), .lit (.int .u8 57), .lit (.int .u8 49), .lit (.int .u8 28), .lit (.int .u8 3), .lit (.int .u8 61), .lit (.int .u8 58), .lit (.int .u8 42), .lit (.int .u8 50), .lit (.int .u8 38), .lit (.int .u8 29), .lit (.int .u8 17), .lit (.int .u8 4), .lit (.int .u8 62), .lit (.int .u8 47), .lit (.int .u8 59), .lit (.int .u8 36), .lit (.int .u8 45), .lit (.int .u8 43), .lit (.int .u8 51), .lit (.int .u8 22), .lit (.int .u8 53), .lit (.int .u8 39), .lit (.int .u8 33), .lit (.int .u8 30), .lit (.int .u8 24), .lit (.int .u8 18), .lit (.int .u8 12), .lit (.int .u8 5), .lit (.int .u8 63), .lit (.int .u8 55), .lit (.int .u8 48), .lit (.int .u8 27), .lit (.int .u8 60), .lit (.int .u8 41), .lit (.int .u8 37), .lit (.int .u8 16), .lit (.int .u8 46), .lit (.int .u8 35), .lit (.int .u8 44), .lit (.int .u8 21), .lit (.int .u8 52), .lit (.int .u8 32), .lit (.int .u8 23), .lit (.int .u8 11), .lit (.int .u8 54), .lit (.int .u8 26), .lit (.int .u8 40), .lit (.int .u8 15), .lit (.int .u8 34), .lit (.int .u8 20), .lit (.int .u8 31), .lit (.int .u8 10), .lit (.int .u8 25), .lit (.int .u8 14), .lit (.int .u8 19), .lit (.int .u8 9), .lit (.int .u8 13), .lit (.int .u8 8), .lit (.int .u8 7), .lit (.int .u8 6)]
def laid_internal_strconv_uint64pow10 {H : Type} : DataW H := .agg [.lit (.int .u64 1), .lit (.int .u64 10), .lit (.int .u64 100), .lit (.int .u64 1000), .lit (.int .u64 10000), .lit (.int .u64 100000), .lit (.int .u64 1000000), .lit (.int .u64 10000000), .lit (.int .u64 100000000), .lit (.int .u64 1000000000), .lit (.int .u64 10000000000), .lit (.int .u64 100000000000), .lit (.int .u64 1000000000000), .lit (.int .u64 10000000000000), .lit (.int .u64 100000000000000), .lit (.int .u64 1000000000000000), .lit (.int .u64 10000000000000000), .lit (.int .u64 100000000000000000), .lit (.int .u64 1000000000000000000), .lit (.int .u64 10000000000000000000)]

/-- 'causalis.LawS0111AValid': WHATEVER THE INPUT: true; the input reads as it did. -/
def lawS0111AValidSpec : ChangeSpec := { name := "lawS0111AValid", vars := ["example.com/causalis/causalis.ErrInvalidNode"], fn := fun _ => fun
  | [d, g1] => { results := [.lit (.bool true)], args := [d], vars := [g1] }
  | _ => none }
def lawS0111AValidRow : OpenClaim := { program := "ybulkbgufmt", sum := "412ed3482e19bb73ff80d4bf5ac44391d28318c30e565dbab51a486fea9582c1", func := "example.com/causalis/causalis.LawS0111AValid", spec := "lawS0111AValid", stops := ["fmt.errorf", "fmt.Sprintf"], inPlace := ["fmt.errorf", "internal/reflectlite.TypeOf"], unfollowed := true, recurses := true, named := ["example.com/causalis/causalis.ErrInvalidNode"], ifaces := true, apart := false, laid := [("example.com/causalis/causalis.ErrInvalidNode", laid_example_com_causalis_causalis_ErrInvalidNode)] }
/-- NO THEOREM (fmt's text is open here; it may be false): for the released tool's asking of the row's closed facts alone. THE STATEMENT IS 'LawS0111AValidToldSaid' (YbulkbguFmtCards.lean). -/
def LawS0111AValidFormAsk : Prop := lawS0111AValidRow.holds Ybaf.pinned (OpenSpec.ofChange lawS0111AValidSpec)

/-- ITS FALSE NEIGHBOUR: 'it returns false'. Refute it at one input. -/
def lawS0111AValidWrong : ChangeSpec := { name := "lawS0111AValid", vars := ["example.com/causalis/causalis.ErrInvalidNode"], fn := fun _ => fun
  | [d, g1] => { results := [.lit (.bool false)], args := [d], vars := [g1] }
  | _ => none }
def LawS0111AValidWrongFormAsk : Prop := lawS0111AValidRow.holds Ybaf.pinned (OpenSpec.ofChange lawS0111AValidWrong)

/-- 'causalis.LawS0111ANode': WHATEVER THE INPUT: true; the input reads as it did. -/
def lawS0111ANodeSpec : ChangeSpec := { name := "lawS0111ANode", vars := ["example.com/causalis/causalis.ErrInvalidNode"], fn := fun _ => fun
  | [d1, d2, g1] => { results := [.lit (.bool true)], args := [d1, d2], vars := [g1] }
  | _ => none }
def lawS0111ANodeRow : OpenClaim := { program := "ybulkbgufmt", sum := "412ed3482e19bb73ff80d4bf5ac44391d28318c30e565dbab51a486fea9582c1", func := "example.com/causalis/causalis.LawS0111ANode", spec := "lawS0111ANode", stops := ["fmt.errorf", "fmt.Sprintf"], inPlace := ["internal/abi.NoEscape", "internal/bytealg.MakeNoZero", "fmt.errorf", "internal/reflectlite.TypeOf"], unfollowed := true, recurses := true, named := ["example.com/causalis/causalis.ErrInvalidNode"], ifaces := true, apart := false, laid := [("example.com/causalis/causalis.ErrInvalidNode", laid_example_com_causalis_causalis_ErrInvalidNode)] }
/-- NO THEOREM (fmt's text is open here; it may be false): for the released tool's asking of the row's closed facts alone. THE STATEMENT IS 'LawS0111ANodeToldSaid' (YbulkbguFmtCards.lean). -/
def LawS0111ANodeFormAsk : Prop := lawS0111ANodeRow.holds Ybaf.pinned (OpenSpec.ofChange lawS0111ANodeSpec)

/-- ITS FALSE NEIGHBOUR: 'it returns false'. Refute it at one input. -/
def lawS0111ANodeWrong : ChangeSpec := { name := "lawS0111ANode", vars := ["example.com/causalis/causalis.ErrInvalidNode"], fn := fun _ => fun
  | [d1, d2, g1] => { results := [.lit (.bool false)], args := [d1, d2], vars := [g1] }
  | _ => none }
def LawS0111ANodeWrongFormAsk : Prop := lawS0111ANodeRow.holds Ybaf.pinned (OpenSpec.ofChange lawS0111ANodeWrong)

/-- 'causalis.LawS0111CRoundTrip': WHATEVER THE INPUT: true; the input reads as it did. -/
def lawS0111CRoundTripSpec : ChangeSpec := { name := "lawS0111CRoundTrip", vars := ["example.com/causalis/causalis.ErrInvalidNode"], fn := fun _ => fun
  | [d1, d2, d3, g1] => { results := [.lit (.bool true)], args := [d1, d2, d3], vars := [g1] }
  | _ => none }
def lawS0111CRoundTripRow : OpenClaim := { program := "ybulkbgufmt", sum := "412ed3482e19bb73ff80d4bf5ac44391d28318c30e565dbab51a486fea9582c1", func := "example.com/causalis/causalis.LawS0111CRoundTrip", spec := "lawS0111CRoundTrip", stops := ["fmt.errorf", "fmt.Sprintf"], inPlace := ["fmt.Sprintf", "fmt.errorf"], recurses := true, named := ["internal/strconv.uint64pow10", "math/bits.deBruijn32tab", "math/bits.deBruijn64tab", "example.com/causalis/causalis.ErrInvalidNode"], ifaces := true, apart := false, laid := [("math/bits.deBruijn32tab", laid_math_bits_deBruijn32tab), ("math/bits.deBruijn64tab", laid_math_bits_deBruijn64tab), ("internal/strconv.uint64pow10", laid_internal_strconv_uint64pow10), ("example.com/causalis/causalis.ErrInvalidNode", laid_example_com_causalis_causalis_ErrInvalidNode)] }
/-- NO THEOREM (fmt's text is open here; it may be false): for the released tool's asking of the row's closed facts alone. THE STATEMENT IS 'LawS0111CRoundTripToldSaid' (YbulkbguFmtCards.lean). -/
def LawS0111CRoundTripFormAsk : Prop := lawS0111CRoundTripRow.holds Ybaf.pinned (OpenSpec.ofChange lawS0111CRoundTripSpec)

/-- ITS FALSE NEIGHBOUR: 'it returns false'. Refute it at one input. -/
def lawS0111CRoundTripWrong : ChangeSpec := { name := "lawS0111CRoundTrip", vars := ["example.com/causalis/causalis.ErrInvalidNode"], fn := fun _ => fun
  | [d1, d2, d3, g1] => { results := [.lit (.bool false)], args := [d1, d2, d3], vars := [g1] }
  | _ => none }
def LawS0111CRoundTripWrongFormAsk : Prop := lawS0111CRoundTripRow.holds Ybaf.pinned (OpenSpec.ofChange lawS0111CRoundTripWrong)

/-- 'causalis.LawS0111CCanonical': WHATEVER THE INPUT: true; the input reads as it did. -/
def lawS0111CCanonicalSpec : ChangeSpec := { name := "lawS0111CCanonical", vars := ["example.com/causalis/causalis.ErrInvalidNode"], fn := fun _ => fun
  | [d1, d2, g1] => { results := [.lit (.bool true)], args := [d1, d2], vars := [g1] }
  | _ => none }
def lawS0111CCanonicalRow : OpenClaim := { program := "ybulkbgufmt", sum := "412ed3482e19bb73ff80d4bf5ac44391d28318c30e565dbab51a486fea9582c1", func := "example.com/causalis/causalis.LawS0111CCanonical", spec := "lawS0111CCanonical", stops := ["fmt.errorf", "fmt.Sprintf"], inPlace := ["fmt.Sprintf", "fmt.errorf"], named := ["internal/strconv.uint64pow10", "math/bits.deBruijn32tab", "math/bits.deBruijn64tab", "example.com/causalis/causalis.ErrInvalidNode"], ifaces := true, apart := false, laid := [("math/bits.deBruijn32tab", laid_math_bits_deBruijn32tab), ("math/bits.deBruijn64tab", laid_math_bits_deBruijn64tab), ("internal/strconv.uint64pow10", laid_internal_strconv_uint64pow10), ("example.com/causalis/causalis.ErrInvalidNode", laid_example_com_causalis_causalis_ErrInvalidNode)] }
/-- NO THEOREM (fmt's text is open here; it may be false): for the released tool's asking of the row's closed facts alone. THE STATEMENT IS 'LawS0111CCanonicalToldSaid' (YbulkbguFmtCards.lean). -/
def LawS0111CCanonicalFormAsk : Prop := lawS0111CCanonicalRow.holds Ybaf.pinned (OpenSpec.ofChange lawS0111CCanonicalSpec)

/-- ITS FALSE NEIGHBOUR: 'it returns false'. Refute it at one input. -/
def lawS0111CCanonicalWrong : ChangeSpec := { name := "lawS0111CCanonical", vars := ["example.com/causalis/causalis.ErrInvalidNode"], fn := fun _ => fun
  | [d1, d2, g1] => { results := [.lit (.bool false)], args := [d1, d2], vars := [g1] }
  | _ => none }
def LawS0111CCanonicalWrongFormAsk : Prop := lawS0111CCanonicalRow.holds Ybaf.pinned (OpenSpec.ofChange lawS0111CCanonicalWrong)

/-- 'causalis.LawS0111CRefuses': WHATEVER THE INPUT: true; the input reads as it did. -/
def lawS0111CRefusesSpec : ChangeSpec := { name := "lawS0111CRefuses", vars := ["example.com/causalis/causalis.ErrInvalidNode"], fn := fun _ => fun
  | [d1, d2, d3, d4, g1] => { results := [.lit (.bool true)], args := [d1, d2, d3, d4], vars := [g1] }
  | _ => none }
def lawS0111CRefusesRow : OpenClaim := { program := "ybulkbgufmt", sum := "412ed3482e19bb73ff80d4bf5ac44391d28318c30e565dbab51a486fea9582c1", func := "example.com/causalis/causalis.LawS0111CRefuses", spec := "lawS0111CRefuses", stops := ["fmt.errorf", "fmt.Sprintf"], inPlace := ["fmt.Sprintf", "fmt.errorf"], recurses := true, named := ["internal/strconv.uint64pow10", "math/bits.deBruijn32tab", "math/bits.deBruijn64tab", "example.com/causalis/causalis.ErrInvalidNode"], ifaces := true, apart := false, laid := [("math/bits.deBruijn32tab", laid_math_bits_deBruijn32tab), ("math/bits.deBruijn64tab", laid_math_bits_deBruijn64tab), ("internal/strconv.uint64pow10", laid_internal_strconv_uint64pow10), ("example.com/causalis/causalis.ErrInvalidNode", laid_example_com_causalis_causalis_ErrInvalidNode)] }
/-- NO THEOREM (fmt's text is open here; it may be false): for the released tool's asking of the row's closed facts alone. THE STATEMENT IS 'LawS0111CRefusesToldSaid' (YbulkbguFmtCards.lean). -/
def LawS0111CRefusesFormAsk : Prop := lawS0111CRefusesRow.holds Ybaf.pinned (OpenSpec.ofChange lawS0111CRefusesSpec)

/-- ITS FALSE NEIGHBOUR: 'it returns false'. Refute it at one input. -/
def lawS0111CRefusesWrong : ChangeSpec := { name := "lawS0111CRefuses", vars := ["example.com/causalis/causalis.ErrInvalidNode"], fn := fun _ => fun
  | [d1, d2, d3, d4, g1] => { results := [.lit (.bool false)], args := [d1, d2, d3, d4], vars := [g1] }
  | _ => none }
def LawS0111CRefusesWrongFormAsk : Prop := lawS0111CRefusesRow.holds Ybaf.pinned (OpenSpec.ofChange lawS0111CRefusesWrong)

end Rows
end Go.Proofs.YbulkbguFmt
