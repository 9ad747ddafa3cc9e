/-
  NARROWER THAN 'FOR EVERY INPUT', by the rows' own cells (each row's printed sentence says how): FnSemverTermHolds: laid · FnSemverTermTilde: laid · FnSemverTildeInterval: laid · FnSemverNotEqualHolds: laid · FnSemverEqualCompares: laid · FnSemverTermsNamed: laid · FnSemverTermFromZero: laid · FnSemverTermsOne: laid · FnSemverApart: laid · FnSemverSortedRank: laid.
  DERIVED. THE GIVEN ROWS OF THIS SEAT. 10 by the template 'for every input the law returns true; each argument reads behind the call as it read before'; 0 by the template 'total and deterministic' (their statements: YtllkoadcpobdaaaDoorTotals.lean).
  GIVEN WITH THE SEED: the statements are not yours to turn. If you find one false, say at which input.
  Laid BY PROGRAM, IN A SANDBOX (cutbox-rows.mjs): the forced cells as the released guide's own fill.sh prints them over the translation be93df93af57500a… (all of the seat's roots in one cut). By AI agents, Wed Nov 11 2026. No macro, syntax, notation, axiom, sorry.
-/
import Derived.Test.YtllkoadcpobdaaaDoorChecked
import GoSem.Claim
import GoSem.ClaimJoined
import GoSem.ClaimMapViews
import Derived.JoinedTies
import Derived.KernelRfl
namespace Go.Proofs.YtllkoadcpobdaaaDoor
/- THE CELL 'sum', in the pinned program and in every row, IS THE sha256 OF THE DUMP (.gsa) THAT YtllkoadcpobdaaaDoorProg.lean LOADS. Nothing in Lean hashes anything: it is a label: what it is worth is what the hold of that sum in a sandbox is worth. -/
noncomputable def Tryd.pinned : Pinned := { name := "ytllkoadcpobdaaadoor", sum := "be93df93af57500ab4963c64410ba61872f3e5bc43e769cfe8b863841e817d34", checked := Tryd.checked }
namespace Rows
def none {H : Type} : Left H := { results := [], args := [] }

/- WHAT THE LISTED PACKAGE-LEVEL VARIABLES READ AS WHEN THE CALL BEGINS. Each datum BY PROGRAM (the guide's laid-datum.mjs) off the statement by which the dump's own 'gosem.cut.vars' lays the variable. In a bare row this is a premise. The card (YtllkoadcpobdaaaDoorCards.lean) ties it to the program's text. -/
def laid_math_bits_deBruijn32tab {H : Type} : DataW H := .agg [.lit (.int .u8 0), .lit (.int .u8 1), .lit (.int .u8 28), .lit (.int .u8 2), .lit (.int .u8 29), .lit (.int .u8 14), .lit (.int .u8 24), .lit (.int .u8 3), .lit (.int .u8 30), .lit (.int .u8 22), .lit (.int .u8 20), .lit (.int .u8 15), .lit (.int .u8 25), .lit (.int .u8 17), .lit (.int .u8 4), .lit (.int .u8 8), .lit (.int .u8 31), .lit (.int .u8 27), .lit (.int .u8 13), .lit (.int .u8 23), .lit (.int .u8 21), .lit (.int .u8 19), .lit (.int .u8 16), .lit (.int .u8 7), .lit (.int .u8 26), .lit (.int .u8 12), .lit (.int .u8 18), .lit (.int .u8 6), .lit (.int .u8 11), .lit (.int .u8 5), .lit (.int .u8 10), .lit (.int .u8 9)]
def laid_math_bits_deBruijn64tab {H : Type} : DataW H := .agg [.lit (.int .u8 0), .lit (.int .u8 1), .lit (.int .u8 56), .lit (.int .u8 2), .lit (.int .u8 57), .lit (.int .u8 49), .lit (.int .u8 28), .lit (.int .u8 3), .lit (.int .u8 61), .lit (.int .u8 58), .lit (.int .u8 42), .lit (.int .u8 50), .lit (.int .u8 38), .lit (.int .u8 29), .lit (.int .u8 17), .lit (.int .u8 4), .lit (.int .u8 62), .lit (.int .u8 47), .lit (.int .u8 59), .lit (.int .u8 36), .lit (.int .u8 45), .lit (.int .u8 43), .lit (.int .u8 51), .lit (.int .u8 22), .lit (.int .u8 53), .lit (.int .u8 39), .lit (.int .u8 33), .lit (.int .u8 30), .lit (.int .u8 24), .lit (.int .u8 18), .lit (.int .u8 12), .lit (.int .u8 5), .lit (.int .u8 63), .lit (.int .u8 55), .lit (.int .u8 48), .lit (.int .u8 27), .lit (.int .u8 60), .lit (.int .u8 41), .lit (.int .u8 37), .lit (.int .u8 16), .lit (.int .u8 46), .lit (.int .u8 35), .lit (.int .u8 44), .lit (.int .u8 21), .lit (.int .u8 52), .lit (.int .u8 32), .lit (.int .u8 23), .lit (.int .u8 11), .lit (.int .u8 54), .lit (.int .u8 26), .lit (.int .u8 40), .lit (.int .u8 15), .lit (.int .u8 34), .lit (.int .u8 20), .lit (.int .u8 31), .lit (.int .u8 10), .lit (.int .u8 25), .lit (.int .u8 14), .lit (.int .u8 19), .lit (.int .u8 9), .lit (.int .u8 13), .lit (.int .u8 8), .lit (.int .u8 7), .lit (.int .u8 6)]
def laid_internal_strconv_uint64pow10 {H : Type} : DataW H := .agg [.lit (.int .u64 1), .lit (.int .u64 10), .lit (.int .u64 100), .lit (.int .u64 1000), .lit (.int .u64 10000), .lit (.int .u64 100000), .lit (.int .u64 1000000), .lit (.int .u64 10000000), .lit (.int .u64 100000000), .lit (.int .u64 1000000000), .lit (.int .u64 10000000000), .lit (.int .u64 100000000000), .lit (.int .u64 1000000000000), .lit (.int .u64 10000000000000), .lit (.int .u64 100000000000000), .lit (.int .u64 1000000000000000), .lit (.int .u64 10000000000000000), .lit (.int .u64 100000000000000000), .lit (.int .u64 1000000000000000000), .lit (.int .u64 10000000000000000000)]
def laid_strconv_ErrRange {H : Type} : DataW H := .iface "*errors.errorString" (.ptr (.agg [.lit (.string [118, 97, 108, 117, 101, 32, 111, 117, 116, 32, 111, 102, 32, 114, 97, 110, 103, 101])]))
def laid_strconv_ErrSyntax {H : Type} : DataW H := .iface "*errors.errorString" (.ptr (.agg [.lit (.string [105, 110, 118, 97, 108, 105, 100, 32, 115, 121, 110, 116, 97, 120])]))

/-- 'laws.FnSemverTermHolds': WHATEVER THE INPUT: true; the input reads as it did. -/
def fnSemverTermHoldsSpec : ChangeSpec := { name := "fnSemverTermHolds", fn := fun _ => fun
  | [d1, d2, d3] => { results := [.lit (.bool true)], args := [d1, d2, d3] }
  | _ => none }
def fnSemverTermHoldsRow : OpenClaim := { program := "ytllkoadcpobdaaadoor", sum := "be93df93af57500ab4963c64410ba61872f3e5bc43e769cfe8b863841e817d34", func := "pub-timebook/laws.FnSemverTermHolds", spec := "fnSemverTermHolds", named := ["strconv.ErrSyntax", "strconv.ErrRange", "internal/strconv.uint64pow10", "math/bits.deBruijn32tab", "math/bits.deBruijn64tab"], apart := false, laid := [("math/bits.deBruijn32tab", laid_math_bits_deBruijn32tab), ("math/bits.deBruijn64tab", laid_math_bits_deBruijn64tab), ("internal/strconv.uint64pow10", laid_internal_strconv_uint64pow10), ("strconv.ErrRange", laid_strconv_ErrRange), ("strconv.ErrSyntax", laid_strconv_ErrSyntax)] }
def FnSemverTermHoldsSaid : Prop := fnSemverTermHoldsRow.holds Tryd.pinned (OpenSpec.ofChange fnSemverTermHoldsSpec)

/-- ITS FALSE NEIGHBOUR: 'it returns false'. Refute it at one input. -/
def fnSemverTermHoldsWrong : ChangeSpec := { name := "fnSemverTermHolds", fn := fun _ => fun
  | [d1, d2, d3] => { results := [.lit (.bool false)], args := [d1, d2, d3] }
  | _ => none }
def FnSemverTermHoldsWrongFalsely : Prop := fnSemverTermHoldsRow.holds Tryd.pinned (OpenSpec.ofChange fnSemverTermHoldsWrong)

/-- 'laws.FnSemverTermTilde': WHATEVER THE INPUT: true; the input reads as it did. -/
def fnSemverTermTildeSpec : ChangeSpec := { name := "fnSemverTermTilde", fn := fun _ => fun
  | [d1, d2, d3] => { results := [.lit (.bool true)], args := [d1, d2, d3] }
  | _ => none }
def fnSemverTermTildeRow : OpenClaim := { program := "ytllkoadcpobdaaadoor", sum := "be93df93af57500ab4963c64410ba61872f3e5bc43e769cfe8b863841e817d34", func := "pub-timebook/laws.FnSemverTermTilde", spec := "fnSemverTermTilde", named := ["strconv.ErrSyntax", "strconv.ErrRange", "internal/strconv.uint64pow10", "math/bits.deBruijn32tab", "math/bits.deBruijn64tab"], apart := false, laid := [("math/bits.deBruijn32tab", laid_math_bits_deBruijn32tab), ("math/bits.deBruijn64tab", laid_math_bits_deBruijn64tab), ("internal/strconv.uint64pow10", laid_internal_strconv_uint64pow10), ("strconv.ErrRange", laid_strconv_ErrRange), ("strconv.ErrSyntax", laid_strconv_ErrSyntax)] }
def FnSemverTermTildeSaid : Prop := fnSemverTermTildeRow.holds Tryd.pinned (OpenSpec.ofChange fnSemverTermTildeSpec)

/-- ITS FALSE NEIGHBOUR: 'it returns false'. Refute it at one input. -/
def fnSemverTermTildeWrong : ChangeSpec := { name := "fnSemverTermTilde", fn := fun _ => fun
  | [d1, d2, d3] => { results := [.lit (.bool false)], args := [d1, d2, d3] }
  | _ => none }
def FnSemverTermTildeWrongFalsely : Prop := fnSemverTermTildeRow.holds Tryd.pinned (OpenSpec.ofChange fnSemverTermTildeWrong)

/-- 'laws.FnSemverTildeInterval': WHATEVER THE INPUT: true; the input reads as it did. -/
def fnSemverTildeIntervalSpec : ChangeSpec := { name := "fnSemverTildeInterval", fn := fun _ => fun
  | [d1, d2, d3] => { results := [.lit (.bool true)], args := [d1, d2, d3] }
  | _ => none }
def fnSemverTildeIntervalRow : OpenClaim := { program := "ytllkoadcpobdaaadoor", sum := "be93df93af57500ab4963c64410ba61872f3e5bc43e769cfe8b863841e817d34", func := "pub-timebook/laws.FnSemverTildeInterval", spec := "fnSemverTildeInterval", named := ["strconv.ErrSyntax", "strconv.ErrRange", "internal/strconv.uint64pow10", "math/bits.deBruijn32tab", "math/bits.deBruijn64tab"], apart := false, laid := [("math/bits.deBruijn32tab", laid_math_bits_deBruijn32tab), ("math/bits.deBruijn64tab", laid_math_bits_deBruijn64tab), ("internal/strconv.uint64pow10", laid_internal_strconv_uint64pow10), ("strconv.ErrRange", laid_strconv_ErrRange), ("strconv.ErrSyntax", laid_strconv_ErrSyntax)] }
def FnSemverTildeIntervalSaid : Prop := fnSemverTildeIntervalRow.holds Tryd.pinned (OpenSpec.ofChange fnSemverTildeIntervalSpec)

/-- ITS FALSE NEIGHBOUR: 'it returns false'. Refute it at one input. -/
def fnSemverTildeIntervalWrong : ChangeSpec := { name := "fnSemverTildeInterval", fn := fun _ => fun
  | [d1, d2, d3] => { results := [.lit (.bool false)], args := [d1, d2, d3] }
  | _ => none }
def FnSemverTildeIntervalWrongFalsely : Prop := fnSemverTildeIntervalRow.holds Tryd.pinned (OpenSpec.ofChange fnSemverTildeIntervalWrong)

/-- 'laws.FnSemverNotEqualHolds': WHATEVER THE INPUT: true; the input reads as it did. -/
def fnSemverNotEqualHoldsSpec : ChangeSpec := { name := "fnSemverNotEqualHolds", fn := fun _ => fun
  | [d1, d2, d3] => { results := [.lit (.bool true)], args := [d1, d2, d3] }
  | _ => none }
def fnSemverNotEqualHoldsRow : OpenClaim := { program := "ytllkoadcpobdaaadoor", sum := "be93df93af57500ab4963c64410ba61872f3e5bc43e769cfe8b863841e817d34", func := "pub-timebook/laws.FnSemverNotEqualHolds", spec := "fnSemverNotEqualHolds", named := ["strconv.ErrSyntax", "strconv.ErrRange", "internal/strconv.uint64pow10", "math/bits.deBruijn32tab", "math/bits.deBruijn64tab"], apart := false, laid := [("math/bits.deBruijn32tab", laid_math_bits_deBruijn32tab), ("math/bits.deBruijn64tab", laid_math_bits_deBruijn64tab), ("internal/strconv.uint64pow10", laid_internal_strconv_uint64pow10), ("strconv.ErrRange", laid_strconv_ErrRange), ("strconv.ErrSyntax", laid_strconv_ErrSyntax)] }
def FnSemverNotEqualHoldsSaid : Prop := fnSemverNotEqualHoldsRow.holds Tryd.pinned (OpenSpec.ofChange fnSemverNotEqualHoldsSpec)

/-- ITS FALSE NEIGHBOUR: 'it returns false'. Refute it at one input. -/
def fnSemverNotEqualHoldsWrong : ChangeSpec := { name := "fnSemverNotEqualHolds", fn := fun _ => fun
  | [d1, d2, d3] => { results := [.lit (.bool false)], args := [d1, d2, d3] }
  | _ => none }
def FnSemverNotEqualHoldsWrongFalsely : Prop := fnSemverNotEqualHoldsRow.holds Tryd.pinned (OpenSpec.ofChange fnSemverNotEqualHoldsWrong)

/-- 'laws.FnSemverEqualCompares': WHATEVER THE INPUT: true; the input reads as it did. -/
def fnSemverEqualComparesSpec : ChangeSpec := { name := "fnSemverEqualCompares", fn := fun _ => fun
  | [d1, d2] => { results := [.lit (.bool true)], args := [d1, d2] }
  | _ => none }
def fnSemverEqualComparesRow : OpenClaim := { program := "ytllkoadcpobdaaadoor", sum := "be93df93af57500ab4963c64410ba61872f3e5bc43e769cfe8b863841e817d34", func := "pub-timebook/laws.FnSemverEqualCompares", spec := "fnSemverEqualCompares", named := ["strconv.ErrSyntax", "strconv.ErrRange", "internal/strconv.uint64pow10", "math/bits.deBruijn32tab", "math/bits.deBruijn64tab"], apart := false, laid := [("math/bits.deBruijn32tab", laid_math_bits_deBruijn32tab), ("math/bits.deBruijn64tab", laid_math_bits_deBruijn64tab), ("internal/strconv.uint64pow10", laid_internal_strconv_uint64pow10), ("strconv.ErrRange", laid_strconv_ErrRange), ("strconv.ErrSyntax", laid_strconv_ErrSyntax)] }
def FnSemverEqualComparesSaid : Prop := fnSemverEqualComparesRow.holds Tryd.pinned (OpenSpec.ofChange fnSemverEqualComparesSpec)

/-- ITS FALSE NEIGHBOUR: 'it returns false'. Refute it at one input. -/
def fnSemverEqualComparesWrong : ChangeSpec := { name := "fnSemverEqualCompares", fn := fun _ => fun
  | [d1, d2] => { results := [.lit (.bool false)], args := [d1, d2] }
  | _ => none }
def FnSemverEqualComparesWrongFalsely : Prop := fnSemverEqualComparesRow.holds Tryd.pinned (OpenSpec.ofChange fnSemverEqualComparesWrong)

/-- 'laws.FnSemverTermsNamed': WHATEVER THE INPUT: true; the input reads as it did. -/
def fnSemverTermsNamedSpec : ChangeSpec := { name := "fnSemverTermsNamed", fn := fun _ => fun
  | [d1, d2] => { results := [.lit (.bool true)], args := [d1, d2] }
  | _ => none }
def fnSemverTermsNamedRow : OpenClaim := { program := "ytllkoadcpobdaaadoor", sum := "be93df93af57500ab4963c64410ba61872f3e5bc43e769cfe8b863841e817d34", func := "pub-timebook/laws.FnSemverTermsNamed", spec := "fnSemverTermsNamed", named := ["strconv.ErrSyntax", "strconv.ErrRange", "internal/strconv.uint64pow10", "math/bits.deBruijn32tab", "math/bits.deBruijn64tab"], apart := false, laid := [("math/bits.deBruijn32tab", laid_math_bits_deBruijn32tab), ("math/bits.deBruijn64tab", laid_math_bits_deBruijn64tab), ("internal/strconv.uint64pow10", laid_internal_strconv_uint64pow10), ("strconv.ErrRange", laid_strconv_ErrRange), ("strconv.ErrSyntax", laid_strconv_ErrSyntax)] }
def FnSemverTermsNamedSaid : Prop := fnSemverTermsNamedRow.holds Tryd.pinned (OpenSpec.ofChange fnSemverTermsNamedSpec)

/-- ITS FALSE NEIGHBOUR: 'it returns false'. Refute it at one input. -/
def fnSemverTermsNamedWrong : ChangeSpec := { name := "fnSemverTermsNamed", fn := fun _ => fun
  | [d1, d2] => { results := [.lit (.bool false)], args := [d1, d2] }
  | _ => none }
def FnSemverTermsNamedWrongFalsely : Prop := fnSemverTermsNamedRow.holds Tryd.pinned (OpenSpec.ofChange fnSemverTermsNamedWrong)

/-- 'laws.FnSemverTermFromZero': WHATEVER THE INPUT: true; the input reads as it did. -/
def fnSemverTermFromZeroSpec : ChangeSpec := { name := "fnSemverTermFromZero", fn := fun _ => fun
  | [d1, d2] => { results := [.lit (.bool true)], args := [d1, d2] }
  | _ => none }
def fnSemverTermFromZeroRow : OpenClaim := { program := "ytllkoadcpobdaaadoor", sum := "be93df93af57500ab4963c64410ba61872f3e5bc43e769cfe8b863841e817d34", func := "pub-timebook/laws.FnSemverTermFromZero", spec := "fnSemverTermFromZero", named := ["strconv.ErrSyntax", "strconv.ErrRange", "internal/strconv.uint64pow10", "math/bits.deBruijn32tab", "math/bits.deBruijn64tab"], apart := false, laid := [("math/bits.deBruijn32tab", laid_math_bits_deBruijn32tab), ("math/bits.deBruijn64tab", laid_math_bits_deBruijn64tab), ("internal/strconv.uint64pow10", laid_internal_strconv_uint64pow10), ("strconv.ErrRange", laid_strconv_ErrRange), ("strconv.ErrSyntax", laid_strconv_ErrSyntax)] }
def FnSemverTermFromZeroSaid : Prop := fnSemverTermFromZeroRow.holds Tryd.pinned (OpenSpec.ofChange fnSemverTermFromZeroSpec)

/-- ITS FALSE NEIGHBOUR: 'it returns false'. Refute it at one input. -/
def fnSemverTermFromZeroWrong : ChangeSpec := { name := "fnSemverTermFromZero", fn := fun _ => fun
  | [d1, d2] => { results := [.lit (.bool false)], args := [d1, d2] }
  | _ => none }
def FnSemverTermFromZeroWrongFalsely : Prop := fnSemverTermFromZeroRow.holds Tryd.pinned (OpenSpec.ofChange fnSemverTermFromZeroWrong)

/-- 'laws.FnSemverTermsOne': WHATEVER THE INPUT: true; the input reads as it did. -/
def fnSemverTermsOneSpec : ChangeSpec := { name := "fnSemverTermsOne", fn := fun _ => fun
  | [d1, d2, d3] => { results := [.lit (.bool true)], args := [d1, d2, d3] }
  | _ => none }
def fnSemverTermsOneRow : OpenClaim := { program := "ytllkoadcpobdaaadoor", sum := "be93df93af57500ab4963c64410ba61872f3e5bc43e769cfe8b863841e817d34", func := "pub-timebook/laws.FnSemverTermsOne", spec := "fnSemverTermsOne", named := ["strconv.ErrSyntax", "strconv.ErrRange", "internal/strconv.uint64pow10", "math/bits.deBruijn32tab", "math/bits.deBruijn64tab"], apart := false, laid := [("math/bits.deBruijn32tab", laid_math_bits_deBruijn32tab), ("math/bits.deBruijn64tab", laid_math_bits_deBruijn64tab), ("internal/strconv.uint64pow10", laid_internal_strconv_uint64pow10), ("strconv.ErrRange", laid_strconv_ErrRange), ("strconv.ErrSyntax", laid_strconv_ErrSyntax)] }
def FnSemverTermsOneSaid : Prop := fnSemverTermsOneRow.holds Tryd.pinned (OpenSpec.ofChange fnSemverTermsOneSpec)

/-- ITS FALSE NEIGHBOUR: 'it returns false'. Refute it at one input. -/
def fnSemverTermsOneWrong : ChangeSpec := { name := "fnSemverTermsOne", fn := fun _ => fun
  | [d1, d2, d3] => { results := [.lit (.bool false)], args := [d1, d2, d3] }
  | _ => none }
def FnSemverTermsOneWrongFalsely : Prop := fnSemverTermsOneRow.holds Tryd.pinned (OpenSpec.ofChange fnSemverTermsOneWrong)

/-- 'laws.FnSemverApart': WHATEVER THE INPUT: true; the input reads as it did. -/
def fnSemverApartSpec : ChangeSpec := { name := "fnSemverApart", fn := fun _ => fun
  | [d1, d2, d3] => { results := [.lit (.bool true)], args := [d1, d2, d3] }
  | _ => none }
def fnSemverApartRow : OpenClaim := { program := "ytllkoadcpobdaaadoor", sum := "be93df93af57500ab4963c64410ba61872f3e5bc43e769cfe8b863841e817d34", func := "pub-timebook/laws.FnSemverApart", spec := "fnSemverApart", unfollowed := true, recurses := true, named := ["strconv.ErrSyntax", "strconv.ErrRange", "internal/strconv.uint64pow10", "math/bits.deBruijn32tab", "math/bits.deBruijn64tab"], apart := false, laid := [("math/bits.deBruijn32tab", laid_math_bits_deBruijn32tab), ("math/bits.deBruijn64tab", laid_math_bits_deBruijn64tab), ("internal/strconv.uint64pow10", laid_internal_strconv_uint64pow10), ("strconv.ErrRange", laid_strconv_ErrRange), ("strconv.ErrSyntax", laid_strconv_ErrSyntax)] }
def FnSemverApartSaid : Prop := fnSemverApartRow.holds Tryd.pinned (OpenSpec.ofChange fnSemverApartSpec)

/-- ITS FALSE NEIGHBOUR: 'it returns false'. Refute it at one input. -/
def fnSemverApartWrong : ChangeSpec := { name := "fnSemverApart", fn := fun _ => fun
  | [d1, d2, d3] => { results := [.lit (.bool false)], args := [d1, d2, d3] }
  | _ => none }
def FnSemverApartWrongFalsely : Prop := fnSemverApartRow.holds Tryd.pinned (OpenSpec.ofChange fnSemverApartWrong)

/-- 'laws.FnSemverSortedRank': WHATEVER THE INPUT: true; the input reads as it did. -/
def fnSemverSortedRankSpec : ChangeSpec := { name := "fnSemverSortedRank", fn := fun _ => fun
  | [d] => { results := [.lit (.bool true)], args := [d] }
  | _ => none }
def fnSemverSortedRankRow : OpenClaim := { program := "ytllkoadcpobdaaadoor", sum := "be93df93af57500ab4963c64410ba61872f3e5bc43e769cfe8b863841e817d34", func := "pub-timebook/laws.FnSemverSortedRank", spec := "fnSemverSortedRank", unfollowed := true, recurses := true, named := ["strconv.ErrSyntax", "strconv.ErrRange", "internal/strconv.uint64pow10", "math/bits.deBruijn32tab", "math/bits.deBruijn64tab"], apart := false, laid := [("math/bits.deBruijn32tab", laid_math_bits_deBruijn32tab), ("math/bits.deBruijn64tab", laid_math_bits_deBruijn64tab), ("internal/strconv.uint64pow10", laid_internal_strconv_uint64pow10), ("strconv.ErrRange", laid_strconv_ErrRange), ("strconv.ErrSyntax", laid_strconv_ErrSyntax)] }
def FnSemverSortedRankSaid : Prop := fnSemverSortedRankRow.holds Tryd.pinned (OpenSpec.ofChange fnSemverSortedRankSpec)

/-- ITS FALSE NEIGHBOUR: 'it returns false'. Refute it at one input. -/
def fnSemverSortedRankWrong : ChangeSpec := { name := "fnSemverSortedRank", fn := fun _ => fun
  | [d] => { results := [.lit (.bool false)], args := [d] }
  | _ => none }
def FnSemverSortedRankWrongFalsely : Prop := fnSemverSortedRankRow.holds Tryd.pinned (OpenSpec.ofChange fnSemverSortedRankWrong)

/- THE SECOND FORM. 'bulk': how many values and letters a reading holds, each counted each time it is reached (what is shared counts as often as it is met; a slice's spare places count too). A statement '..UptoSaid' is the law's where the arguments, and the package variables that the reading takes, are together of bulk at most 1048576: NARROWER than '..Said'. Prove '..Said' where nothing that the law and all that it calls make is longer than what came in: it says more and counts as full. Else prove '..UptoSaid'. A law counts once. -/
mutual
def uptoBulk {H : Type} : DataW H → Nat
  | .lit (.string bytes) => bytes.length + 1
  | .lit _ => 1
  | .nil => 1
  | .ptr d => uptoBulk d + 1
  | .slice elems spare => uptoBulkAll elems + uptoBulkAll spare + 1
  | .agg parts => uptoBulkAll parts + 1
  | .iface _ d => uptoBulk d + 1
  | .map entries => uptoBulkEntries entries + 1
  | .held _ => 1
def uptoBulkAll {H : Type} : List (DataW H) → Nat
  | [] => 0
  | d :: r => uptoBulk d + uptoBulkAll r
def uptoBulkEntries {H : Type} : List (Lit × DataW H) → Nat
  | [] => 0
  | x :: r => uptoBulkEntry x + uptoBulkEntries r
def uptoBulkEntry {H : Type} : Lit × DataW H → Nat
  | (.string bytes, d) => bytes.length + uptoBulk d + 1
  | (_, d) => uptoBulk d + 1
 end
def uptoSmall : (H : Type) → List (DataW H) → Bool := fun _ ds => decide (uptoBulkAll ds ≤ 1048576)
def OpenSpec.upto (s : _root_.Go.ChangeSpec) : _root_.Go.OpenSpec := { _root_.Go.OpenSpec.ofChange s with cond := some uptoSmall }

/-- 'laws.FnSemverTermHolds', WHERE WHAT IT READS IS OF BULK AT MOST 1048576: true; the input reads as it did. -/
def fnSemverTermHoldsUptoRow : OpenClaim := { program := "ytllkoadcpobdaaadoor", sum := "be93df93af57500ab4963c64410ba61872f3e5bc43e769cfe8b863841e817d34", func := "pub-timebook/laws.FnSemverTermHolds", spec := "fnSemverTermHolds", named := ["strconv.ErrSyntax", "strconv.ErrRange", "internal/strconv.uint64pow10", "math/bits.deBruijn32tab", "math/bits.deBruijn64tab"], apart := false, laid := [("math/bits.deBruijn32tab", laid_math_bits_deBruijn32tab), ("math/bits.deBruijn64tab", laid_math_bits_deBruijn64tab), ("internal/strconv.uint64pow10", laid_internal_strconv_uint64pow10), ("strconv.ErrRange", laid_strconv_ErrRange), ("strconv.ErrSyntax", laid_strconv_ErrSyntax)], narrowed := true }
def FnSemverTermHoldsUptoSaid : Prop := fnSemverTermHoldsUptoRow.holds Tryd.pinned (OpenSpec.upto fnSemverTermHoldsSpec)

/-- 'laws.FnSemverTermTilde', WHERE WHAT IT READS IS OF BULK AT MOST 1048576: true; the input reads as it did. -/
def fnSemverTermTildeUptoRow : OpenClaim := { program := "ytllkoadcpobdaaadoor", sum := "be93df93af57500ab4963c64410ba61872f3e5bc43e769cfe8b863841e817d34", func := "pub-timebook/laws.FnSemverTermTilde", spec := "fnSemverTermTilde", named := ["strconv.ErrSyntax", "strconv.ErrRange", "internal/strconv.uint64pow10", "math/bits.deBruijn32tab", "math/bits.deBruijn64tab"], apart := false, laid := [("math/bits.deBruijn32tab", laid_math_bits_deBruijn32tab), ("math/bits.deBruijn64tab", laid_math_bits_deBruijn64tab), ("internal/strconv.uint64pow10", laid_internal_strconv_uint64pow10), ("strconv.ErrRange", laid_strconv_ErrRange), ("strconv.ErrSyntax", laid_strconv_ErrSyntax)], narrowed := true }
def FnSemverTermTildeUptoSaid : Prop := fnSemverTermTildeUptoRow.holds Tryd.pinned (OpenSpec.upto fnSemverTermTildeSpec)

/-- 'laws.FnSemverTildeInterval', WHERE WHAT IT READS IS OF BULK AT MOST 1048576: true; the input reads as it did. -/
def fnSemverTildeIntervalUptoRow : OpenClaim := { program := "ytllkoadcpobdaaadoor", sum := "be93df93af57500ab4963c64410ba61872f3e5bc43e769cfe8b863841e817d34", func := "pub-timebook/laws.FnSemverTildeInterval", spec := "fnSemverTildeInterval", named := ["strconv.ErrSyntax", "strconv.ErrRange", "internal/strconv.uint64pow10", "math/bits.deBruijn32tab", "math/bits.deBruijn64tab"], apart := false, laid := [("math/bits.deBruijn32tab", laid_math_bits_deBruijn32tab), ("math/bits.deBruijn64tab", laid_math_bits_deBruijn64tab), ("internal/strconv.uint64pow10", laid_internal_strconv_uint64pow10), ("strconv.ErrRange", laid_strconv_ErrRange), ("strconv.ErrSyntax", laid_strconv_ErrSyntax)], narrowed := true }
def FnSemverTildeIntervalUptoSaid : Prop := fnSemverTildeIntervalUptoRow.holds Tryd.pinned (OpenSpec.upto fnSemverTildeIntervalSpec)

/-- 'laws.FnSemverNotEqualHolds', WHERE WHAT IT READS IS OF BULK AT MOST 1048576: true; the input reads as it did. -/
def fnSemverNotEqualHoldsUptoRow : OpenClaim := { program := "ytllkoadcpobdaaadoor", sum := "be93df93af57500ab4963c64410ba61872f3e5bc43e769cfe8b863841e817d34", func := "pub-timebook/laws.FnSemverNotEqualHolds", spec := "fnSemverNotEqualHolds", named := ["strconv.ErrSyntax", "strconv.ErrRange", "internal/strconv.uint64pow10", "math/bits.deBruijn32tab", "math/bits.deBruijn64tab"], apart := false, laid := [("math/bits.deBruijn32tab", laid_math_bits_deBruijn32tab), ("math/bits.deBruijn64tab", laid_math_bits_deBruijn64tab), ("internal/strconv.uint64pow10", laid_internal_strconv_uint64pow10), ("strconv.ErrRange", laid_strconv_ErrRange), ("strconv.ErrSyntax", laid_strconv_ErrSyntax)], narrowed := true }
def FnSemverNotEqualHoldsUptoSaid : Prop := fnSemverNotEqualHoldsUptoRow.holds Tryd.pinned (OpenSpec.upto fnSemverNotEqualHoldsSpec)

/-- 'laws.FnSemverEqualCompares', WHERE WHAT IT READS IS OF BULK AT MOST 1048576: true; the input reads as it did. -/
def fnSemverEqualComparesUptoRow : OpenClaim := { program := "ytllkoadcpobdaaadoor", sum := "be93df93af57500ab4963c64410ba61872f3e5bc43e769cfe8b863841e817d34", func := "pub-timebook/laws.FnSemverEqualCompares", spec := "fnSemverEqualCompares", named := ["strconv.ErrSyntax", "strconv.ErrRange", "internal/strconv.uint64pow10", "math/bits.deBruijn32tab", "math/bits.deBruijn64tab"], apart := false, laid := [("math/bits.deBruijn32tab", laid_math_bits_deBruijn32tab), ("math/bits.deBruijn64tab", laid_math_bits_deBruijn64tab), ("internal/strconv.uint64pow10", laid_internal_strconv_uint64pow10), ("strconv.ErrRange", laid_strconv_ErrRange), ("strconv.ErrSyntax", laid_strconv_ErrSyntax)], narrowed := true }
def FnSemverEqualComparesUptoSaid : Prop := fnSemverEqualComparesUptoRow.holds Tryd.pinned (OpenSpec.upto fnSemverEqualComparesSpec)

/-- 'laws.FnSemverTermsNamed', WHERE WHAT IT READS IS OF BULK AT MOST 1048576: true; the input reads as it did. -/
def fnSemverTermsNamedUptoRow : OpenClaim := { program := "ytllkoadcpobdaaadoor", sum := "be93df93af57500ab4963c64410ba61872f3e5bc43e769cfe8b863841e817d34", func := "pub-timebook/laws.FnSemverTermsNamed", spec := "fnSemverTermsNamed", named := ["strconv.ErrSyntax", "strconv.ErrRange", "internal/strconv.uint64pow10", "math/bits.deBruijn32tab", "math/bits.deBruijn64tab"], apart := false, laid := [("math/bits.deBruijn32tab", laid_math_bits_deBruijn32tab), ("math/bits.deBruijn64tab", laid_math_bits_deBruijn64tab), ("internal/strconv.uint64pow10", laid_internal_strconv_uint64pow10), ("strconv.ErrRange", laid_strconv_ErrRange), ("strconv.ErrSyntax", laid_strconv_ErrSyntax)], narrowed := true }
def FnSemverTermsNamedUptoSaid : Prop := fnSemverTermsNamedUptoRow.holds Tryd.pinned (OpenSpec.upto fnSemverTermsNamedSpec)

/-- 'laws.FnSemverTermFromZero', WHERE WHAT IT READS IS OF BULK AT MOST 1048576: true; the input reads as it did. -/
def fnSemverTermFromZeroUptoRow : OpenClaim := { program := "ytllkoadcpobdaaadoor", sum := "be93df93af57500ab4963c64410ba61872f3e5bc43e769cfe8b863841e817d34", func := "pub-timebook/laws.FnSemverTermFromZero", spec := "fnSemverTermFromZero", named := ["strconv.ErrSyntax", "strconv.ErrRange", "internal/strconv.uint64pow10", "math/bits.deBruijn32tab", "math/bits.deBruijn64tab"], apart := false, laid := [("math/bits.deBruijn32tab", laid_math_bits_deBruijn32tab), ("math/bits.deBruijn64tab", laid_math_bits_deBruijn64tab), ("internal/strconv.uint64pow10", laid_internal_strconv_uint64pow10), ("strconv.ErrRange", laid_strconv_ErrRange), ("strconv.ErrSyntax", laid_strconv_ErrSyntax)], narrowed := true }
def FnSemverTermFromZeroUptoSaid : Prop := fnSemverTermFromZeroUptoRow.holds Tryd.pinned (OpenSpec.upto fnSemverTermFromZeroSpec)

/-- 'laws.FnSemverTermsOne', WHERE WHAT IT READS IS OF BULK AT MOST 1048576: true; the input reads as it did. -/
def fnSemverTermsOneUptoRow : OpenClaim := { program := "ytllkoadcpobdaaadoor", sum := "be93df93af57500ab4963c64410ba61872f3e5bc43e769cfe8b863841e817d34", func := "pub-timebook/laws.FnSemverTermsOne", spec := "fnSemverTermsOne", named := ["strconv.ErrSyntax", "strconv.ErrRange", "internal/strconv.uint64pow10", "math/bits.deBruijn32tab", "math/bits.deBruijn64tab"], apart := false, laid := [("math/bits.deBruijn32tab", laid_math_bits_deBruijn32tab), ("math/bits.deBruijn64tab", laid_math_bits_deBruijn64tab), ("internal/strconv.uint64pow10", laid_internal_strconv_uint64pow10), ("strconv.ErrRange", laid_strconv_ErrRange), ("strconv.ErrSyntax", laid_strconv_ErrSyntax)], narrowed := true }
def FnSemverTermsOneUptoSaid : Prop := fnSemverTermsOneUptoRow.holds Tryd.pinned (OpenSpec.upto fnSemverTermsOneSpec)

/-- 'laws.FnSemverApart', WHERE WHAT IT READS IS OF BULK AT MOST 1048576: true; the input reads as it did. -/
def fnSemverApartUptoRow : OpenClaim := { program := "ytllkoadcpobdaaadoor", sum := "be93df93af57500ab4963c64410ba61872f3e5bc43e769cfe8b863841e817d34", func := "pub-timebook/laws.FnSemverApart", spec := "fnSemverApart", unfollowed := true, recurses := true, named := ["strconv.ErrSyntax", "strconv.ErrRange", "internal/strconv.uint64pow10", "math/bits.deBruijn32tab", "math/bits.deBruijn64tab"], apart := false, laid := [("math/bits.deBruijn32tab", laid_math_bits_deBruijn32tab), ("math/bits.deBruijn64tab", laid_math_bits_deBruijn64tab), ("internal/strconv.uint64pow10", laid_internal_strconv_uint64pow10), ("strconv.ErrRange", laid_strconv_ErrRange), ("strconv.ErrSyntax", laid_strconv_ErrSyntax)], narrowed := true }
def FnSemverApartUptoSaid : Prop := fnSemverApartUptoRow.holds Tryd.pinned (OpenSpec.upto fnSemverApartSpec)

/-- 'laws.FnSemverSortedRank', WHERE WHAT IT READS IS OF BULK AT MOST 1048576: true; the input reads as it did. -/
def fnSemverSortedRankUptoRow : OpenClaim := { program := "ytllkoadcpobdaaadoor", sum := "be93df93af57500ab4963c64410ba61872f3e5bc43e769cfe8b863841e817d34", func := "pub-timebook/laws.FnSemverSortedRank", spec := "fnSemverSortedRank", unfollowed := true, recurses := true, named := ["strconv.ErrSyntax", "strconv.ErrRange", "internal/strconv.uint64pow10", "math/bits.deBruijn32tab", "math/bits.deBruijn64tab"], apart := false, laid := [("math/bits.deBruijn32tab", laid_math_bits_deBruijn32tab), ("math/bits.deBruijn64tab", laid_math_bits_deBruijn64tab), ("internal/strconv.uint64pow10", laid_internal_strconv_uint64pow10), ("strconv.ErrRange", laid_strconv_ErrRange), ("strconv.ErrSyntax", laid_strconv_ErrSyntax)], narrowed := true }
def FnSemverSortedRankUptoSaid : Prop := fnSemverSortedRankUptoRow.holds Tryd.pinned (OpenSpec.upto fnSemverSortedRankSpec)

end Rows
end Go.Proofs.YtllkoadcpobdaaaDoor
