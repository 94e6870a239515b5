/-
  NARROWER THAN 'FOR EVERY INPUT', by the rows' own cells (each row's printed sentence says how): FnEntryZero: laid · FnEntryParse: laid · FnEntryChain: laid · FnEntryInherit: laid · FnEntrySub: laid · FnEntryBack: laid · FnEntryTwice: laid · FnStyleOrder: laid · FnStyleOwn: laid.
  DERIVED. THE GIVEN ROWS OF THIS SEAT. 9 by the template 'for every input the law returns true; each argument reads behind the call as it read before'; 0 by the template 'total and deterministic' (their statements: YtifhhejohdmiaaaDoorTotals.lean).
  GIVEN WITH THE SEED: the statements are not yours to turn. If you find one false, say at which input.
  Laid BY PROGRAM, IN A SANDBOX (cutbox-rows.mjs): the forced cells as the released guide's own fill.sh prints them over the translation d288f4930680a7ff… (all of the seat's roots in one cut). By AI agents, Wed Nov 11 2026. No macro, syntax, notation, axiom, sorry.
-/
import Derived.Test.YtifhhejohdmiaaaDoorChecked
import GoSem.PinnedTables
import GoSem.Claim
import GoSem.ClaimJoined
import GoSem.ClaimMapViews
import Derived.JoinedTies
import Derived.KernelRfl
namespace Go.Proofs.YtifhhejohdmiaaaDoor
/- THE CELL 'sum', in the pinned program and in every row, IS THE sha256 OF THE DUMP (.gsa) THAT YtifhhejohdmiaaaDoorProg.lean LOADS. Nothing in Lean hashes anything: it is a label: what it is worth is what the hold of that sum in a sandbox is worth. -/
noncomputable def Tryd.pinned : Pinned := { name := "ytifhhejohdmiaaadoor", sum := "d288f4930680a7ff371e13b5a28cb752f48038ad173a54b7561229a366be3161", checked := Tryd.checked }
namespace Rows
def none {H : Type} : Left H := { results := [], args := [] }

/- WHAT THE LISTED PACKAGE-LEVEL VARIABLES READ AS WHEN THE CALL BEGINS. Each datum BY PROGRAM (the guide's laid-datum.mjs) off the statement by which the dump's own 'gosem.cut.vars' lays the variable. In a bare row this is a premise. The card (YtifhhejohdmiaaaDoorCards.lean) ties it to the program's text. -/
def laid_math_bits_deBruijn32tab {H : Type} : DataW H := .agg [.lit (.int .u8 0), .lit (.int .u8 1), .lit (.int .u8 28), .lit (.int .u8 2), .lit (.int .u8 29), .lit (.int .u8 14), .lit (.int .u8 24), .lit (.int .u8 3), .lit (.int .u8 30), .lit (.int .u8 22), .lit (.int .u8 20), .lit (.int .u8 15), .lit (.int .u8 25), .lit (.int .u8 17), .lit (.int .u8 4), .lit (.int .u8 8), .lit (.int .u8 31), .lit (.int .u8 27), .lit (.int .u8 13), .lit (.int .u8 23), .lit (.int .u8 21), .lit (.int .u8 19), .lit (.int .u8 16), .lit (.int .u8 7), .lit (.int .u8 26), .lit (.int .u8 12), .lit (.int .u8 18), .lit (.int .u8 6), .lit (.int .u8 11), .lit (.int .u8 5), .lit (.int .u8 10), .lit (.int .u8 9)]
def laid_math_bits_deBruijn64tab {H : Type} : DataW H := .agg [.lit (.int .u8 0), .lit (.int .u8 1), .lit (.int .u8 56), .lit (.int .u8 2), .lit (.int .u8 57), .lit (.int .u8 49), .lit (.int .u8 28), .lit (.int .u8 3), .lit (.int .u8 61), .lit (.int .u8 58), .lit (.int .u8 42), .lit (.int .u8 50), .lit (.int .u8 38), .lit (.int .u8 29), .lit (.int .u8 17), .lit (.int .u8 4), .lit (.int .u8 62), .lit (.int .u8 47), .lit (.int .u8 59), .lit (.int .u8 36), .lit (.int .u8 45), .lit (.int .u8 43), .lit (.int .u8 51), .lit (.int .u8 22), .lit (.int .u8 53), .lit (.int .u8 39), .lit (.int .u8 33), .lit (.int .u8 30), .lit (.int .u8 24), .lit (.int .u8 18), .lit (.int .u8 12), .lit (.int .u8 5), .lit (.int .u8 63), .lit (.int .u8 55), .lit (.int .u8 48), .lit (.int .u8 27), .lit (.int .u8 60), .lit (.int .u8 41), .lit (.int .u8 37), .lit (.int .u8 16), .lit (.int .u8 46), .lit (.int .u8 35), .lit (.int .u8 44), .lit (.int .u8 21), .lit (.int .u8 52), .lit (.int .u8 32), .lit (.int .u8 23), .lit (.int .u8 11), .lit (.int .u8 54), .lit (.int .u8 26), .lit (.int .u8 40), .lit (.int .u8 15), .lit (.int .u8 34), .lit (.int .u8 20), .lit (.int .u8 31), .lit (.int .u8 10), .lit (.int .u8 25), .lit (.int .u8 14), .lit (.int .u8 19), .lit (.int .u8 9), .lit (.int .u8 13), .lit (.int .u8 8), .lit (.int .u8 7), .lit (.int .u8 6)]
def laid_internal_strconv_uint64pow10 {H : Type} : DataW H := .agg [.lit (.int .u64 1), .lit (.int .u64 10), .lit (.int .u64 100), .lit (.int .u64 1000), .lit (.int .u64 10000), .lit (.int .u64 100000), .lit (.int .u64 1000000), .lit (.int .u64 10000000), .lit (.int .u64 100000000), .lit (.int .u64 1000000000), .lit (.int .u64 10000000000), .lit (.int .u64 100000000000), .lit (.int .u64 1000000000000), .lit (.int .u64 10000000000000), .lit (.int .u64 100000000000000), .lit (.int .u64 1000000000000000), .lit (.int .u64 10000000000000000), .lit (.int .u64 100000000000000000), .lit (.int .u64 1000000000000000000), .lit (.int .u64 10000000000000000000)]
def laid_unicode_utf8_acceptRanges {H : Type} : DataW H := .agg [.agg [.lit (.int .u8 128), .lit (.int .u8 191)], .agg [.lit (.int .u8 160), .lit (.int .u8 191)], .agg [.lit (.int .u8 128), .lit (.int .u8 159)], .agg [.lit (.int .u8 144), .lit (.int .u8 191)], .agg [.lit (.int .u8 128), .lit (.int .u8 143)], .agg [.lit (.int .u8 0), .lit (.int .u8 0)], .agg [.lit (.int .u8 0), .lit (.int .u8 0)], .agg [.lit (.int .u8 0), .lit (.int .u8 0)], .agg [.lit (.int .u8 0), .lit (.int .u8 0)], .agg [.lit (.int .u8 0), .lit (.int .u8 0)], .agg [.lit (.int .u8 0), .lit (.int .u8 0)], .agg [.lit (.int .u8 0), .lit (.int .u8 0)], .agg [.lit (.int .u8 0), .lit (.int .u8 0)], .agg [.lit (.int .u8 0), .lit (.int .u8 0)], .agg [.lit (.int .u8 0), .lit (.int .u8 0)], .agg [.lit (.int .u8 0), .lit (.int .u8 0)]]
def laid_strconv_ErrRange {H : Type} : DataW H := .iface "*errors.errorString" (.ptr (.agg [.lit (.string [118, 97, 108, 117, 101, 32, 111, 117, 116, 32, 111, 102, 32, 114, 97, 110, 103, 101])]))
def laid_strconv_ErrSyntax {H : Type} : DataW H := .iface "*errors.errorString" (.ptr (.agg [.lit (.string [105, 110, 118, 97, 108, 105, 100, 32, 115, 121, 110, 116, 97, 120])]))
def laid_unicode_White_Space {H : Type} : DataW H := .ptr (.agg [.slice [.agg [.lit (.int .u16 9), .lit (.int .u16 13), .lit (.int .u16 1)], .agg [.lit (.int .u16 32), .lit (.int .u16 133), .lit (.int .u16 101)], .agg [.lit (.int .u16 160), .lit (.int .u16 5760), .lit (.int .u16 5600)], .agg [.lit (.int .u16 8192), .lit (.int .u16 8202), .lit (.int .u16 1)], .agg [.lit (.int .u16 8232), .lit (.int .u16 8233), .lit (.int .u16 1)], .agg [.lit (.int .u16 8239), .lit (.int .u16 8287), .lit (.int .u16 48)], .agg [.lit (.int .u16 12288), .lit (.int .u16 12288), .lit (.int .u16 1)]] [], .nil, .lit (.int .i64 2)])
def laid_strings_asciiSpace {H : Type} : DataW H := .agg [.lit (.int .u8 0), .lit (.int .u8 0), .lit (.int .u8 0), .lit (.int .u8 0), .lit (.int .u8 0), .lit (.int .u8 0), .lit (.int .u8 0), .lit (.int .u8 0), .lit (.int .u8 0), .lit (.int .u8 1), .lit (.int .u8 1), .lit (.int .u8 1), .lit (.int .u8 1), .lit (.int .u8 1), .lit (.int .u8 0), .lit (.int .u8 0), .lit (.int .u8 0), .lit (.int .u8 0), .lit (.int .u8 0), .lit (.int .u8 0), .lit (.int .u8 0), .lit (.int .u8 0), .lit (.int .u8 0), .lit (.int .u8 0), .lit (.int .u8 0), .lit (.int .u8 0), .lit (.int .u8 0), .lit (.int .u8 0), .lit (.int .u8 0), .lit (.int .u8 0), .lit (.int .u8 0), .lit (.int .u8 0), .lit (.int .u8 1), .lit (.int .u8 0), .lit (.int .u8 0), .lit (.int .u8 0), .lit (.int .u8 0), .lit (.int .u8 0), .lit (.int .u8 0), .lit (.int .u8 0), .lit (.int .u8 0), .lit (.int .u8 0), .lit (.int .u8 0), .lit (.int .u8 0), .lit (.int .u8 0), .lit (.int .u8 0), .lit (.int .u8 0), .lit (.int .u8 0), .lit (.int .u8 0), .lit (.int .u8 0), .lit (.int .u8 0), .lit (.int .u8 0), .lit (.int .u8 0), .lit (.int .u8 0), .lit (.int .u8 0), .lit (.int .u8 0), .lit (.int .u8 0), .lit (.int .u8 0), .lit (.int .u8 0), .lit (.int .u8 0), .lit (.int .u8 0), .lit (.int .u8 0), .lit (.int .u8 0), .lit (.int .u8 0), .lit (.int .u8 0), .lit (.int .u8 0), .lit (.int .u8 0), .lit (.int .u8 0), .lit (.int .u8 0), .lit (.int .u8 0), .lit (.int .u8 0), .lit (.int .u8 0), .lit (.int .u8 0), .lit (.int .u8 0), .lit (.int .u8 0), .lit (.int .u8 0), .lit (.int .u8 0), .lit (.int .u8 0), .lit (.int .u8 0), .lit (.int .u8 0), .lit (.int .u8 0), .lit (.int .u8 0), .lit (.int .u8 0), .lit (.int .u8 0), .lit (.int .u8 0), .lit (.int .u8 0), .lit (.int .u8 0), .lit (.int .u8 0), .lit (.int .u8 0), .lit (.int .u8 0), .lit (.int .u8 0), .lit (.int .u8 0), .lit (.int .u8 0), .lit (.int .u8 0), .lit (.int .u8 0), .lit (.int .u8 0), .lit (.int .u8 0), .lit (.int .u8 0), .lit (.int .u8 0), .lit (.int .u8 0), .lit (.int .u8 0), .lit (.int .u8 0), .lit (.int .u8 0), .lit (.int .u8 0), .lit (.int .u8 0), .lit (.int .u8 0), .lit (.int .u8 0), .lit (.int .u8 0), .lit (.int .u8 0), .lit (.int .u8 0), .lit (.int .u8 0), .lit (.int .u8 0), .lit (.int .u8 0), .lit (.int .u8 0), .lit (.int .u8 0), .lit (.int .u8 0), .lit (.int .u8 0), .lit (.int .u8 0), .lit (.int .u8 0), .lit (.int .u8 0), .lit (.int .u8 0), .lit (.int .u8 0), .lit (.int .u8 0), .lit (.int .u8 0), .lit (.int .u8 0), .lit (.int .u8 0), .lit (.int .u8 0), .lit (.int .u8 0), .lit (.int .u8 0), .lit (.int .u8 0), .lit (.int .u8 0), .lit (.int .u8 0), .lit (.int .u8 0), .lit (.int .u8 0), .lit (.int .u8 0), .lit (.int .u8 0), .lit (.int .u8 0), .lit (.int .u8 0), .lit (.int .u8 0), .lit (.int .u8 0), .lit (.int .u8 0), .lit (.int .u8 0), .lit (.int .u8 0), .lit (.int .u8 0), .lit (.int .u8 0), .lit (.int .u8 0), .lit (.int .u8 0), .lit (.int .u8 0), .lit (.int .u8 0), .lit (.int .u8 0), .lit (.int .u8 0), .lit (.int .u8 0), .lit (.int .u8 0), .lit (.int .u8 0), .lit (.int .u8 0), .lit (.int .u8 0), .lit (.int .u8 0), .lit (.int .u8 0), .lit (.int .u8 0), .lit (.int .u8 0), .lit (.int .u8 0), .lit (.int .u8 0), .lit (.int .u8 0), .lit (.int .u8 0), .lit (.int .u8 0), .lit (.int .u8 0), .lit (.int .u8 0), .lit (.int .u8 0), .lit (.int .u8 0), .lit (.int .u8 0), .lit (.int .u8 0), .lit (.int .u8 0), .lit (.int .u8 0), .lit (.int .u8 0), .lit (.int .u8 0), .lit (.int .u8 0), .lit (.int .u8 0), .lit (.int .u8 0), .lit (.int .u8 0), .lit (.int .u8 0), .lit (.int .u8 0), .lit (.int .u8 0), .lit (.int .u8 0), .lit (.int .u8 0), .lit (.int .u8 0), .lit (.int .u8 0), .lit (.int .u8 0), .lit (.int .u8 0), .lit (.int .u8 0), .lit (.int .u8 0), .lit (.int .u8 0), .lit (.int .u8 0), .lit (.int .u8 0), .lit (.int .u8 0), .lit (.int .u8 0), .lit (.int .u8 0), .lit (.int .u8 0), .lit (.int .u8 0), .lit (.int .u8 0), .lit (.int .u8 0), .lit (.int .u8 0), .lit (.int .u8 0), .lit (.int .u8 0), .lit (.int .u8 0), .lit (.int .u8 0), .lit (.int .u8 0), .lit (.int .u8 0), .lit (.int .u8 0), .lit (.int .u8 0), .lit (.int .u8 0), .lit (.int .u8 0), .lit (.int .u8 0), .lit (.int .u8 0), .lit (.int .u8 0), .lit (.int .u8 0), .lit (.int .u8 0), .lit (.int .u8 0), .lit (.int .u8 0), .lit (.int .u8 0), .lit (.int .u8 0), .lit (.int .u8 0), .lit (.int .u8 0), .lit (.int .u8 0), .lit (.int .u8 0), .lit (.int .u8 0), .lit (.int .u8 0), .lit (.int .u8 0), .lit (.int .u8 0), .lit (.int .u8 0), .lit (.int .u8 0), .lit (.int .u8 0), .lit (.int .u8 0), .lit (.int .u8 0), .lit (.int .u8 0), .lit (.int .u8 0), .lit (.int .u8 0), .lit (.int .u8 0), .lit (.int .u8 0), .lit (.int .u8 0), .lit (.int .u8 0), .lit (.int .u8 0), .lit (.int .u8 0), .lit (.int .u8 0), .lit (.int .u8 0), .lit (.int .u8 0), .lit (.int .u8 0), .lit (.int .u8 0), .lit (.int .u8 0), .lit (.int .u8 0), .lit (.int .u8 0), .lit (.int .u8 0), .lit (.int .u8 0), .lit (.int .u8 0), .lit (.int .u8 0), .lit (.int .u8 0), .lit (.int .u8 0)]
/-- One of Go's own tables, pinned by name: the form's constant. -/
def laid_unicode_utf8_first : DataW Unit := Go.Pinned.utf8First

/-- 'laws.FnEntryZero': WHATEVER THE INPUT: true; the input reads as it did. -/
def fnEntryZeroSpec : ChangeSpec := { name := "fnEntryZero", fn := fun _ => fun
  | [d] => { results := [.lit (.bool true)], args := [d] }
  | _ => none }
def fnEntryZeroRow : OpenClaim := { program := "ytifhhejohdmiaaadoor", sum := "d288f4930680a7ff371e13b5a28cb752f48038ad173a54b7561229a366be3161", func := "pub-rubrication/laws.FnEntryZero", spec := "fnEntryZero", unfollowed := true, recurses := true, named := ["strings.asciiSpace", "unicode/utf8.first", "unicode/utf8.acceptRanges", "unicode.White_Space", "strconv.ErrSyntax", "strconv.ErrRange", "internal/strconv.uint64pow10", "math/bits.deBruijn32tab", "math/bits.deBruijn64tab"], apart := false, laid := [("math/bits.deBruijn32tab", laid_math_bits_deBruijn32tab), ("math/bits.deBruijn64tab", laid_math_bits_deBruijn64tab), ("internal/strconv.uint64pow10", laid_internal_strconv_uint64pow10), ("unicode/utf8.acceptRanges", laid_unicode_utf8_acceptRanges), ("strconv.ErrRange", laid_strconv_ErrRange), ("strconv.ErrSyntax", laid_strconv_ErrSyntax), ("unicode.White_Space", laid_unicode_White_Space), ("strings.asciiSpace", laid_strings_asciiSpace), ("unicode/utf8.first", laid_unicode_utf8_first)] }
def FnEntryZeroSaid : Prop := fnEntryZeroRow.holds Tryd.pinned (OpenSpec.ofChange fnEntryZeroSpec)

/-- ITS FALSE NEIGHBOUR: 'it returns false'. Refute it at one input. -/
def fnEntryZeroWrong : ChangeSpec := { name := "fnEntryZero", fn := fun _ => fun
  | [d] => { results := [.lit (.bool false)], args := [d] }
  | _ => none }
def FnEntryZeroWrongFalsely : Prop := fnEntryZeroRow.holds Tryd.pinned (OpenSpec.ofChange fnEntryZeroWrong)

/-- 'laws.FnEntryParse': WHATEVER THE INPUT: true; the input reads as it did. -/
def fnEntryParseSpec : ChangeSpec := { name := "fnEntryParse", fn := fun _ => fun
  | [d] => { results := [.lit (.bool true)], args := [d] }
  | _ => none }
def fnEntryParseRow : OpenClaim := { program := "ytifhhejohdmiaaadoor", sum := "d288f4930680a7ff371e13b5a28cb752f48038ad173a54b7561229a366be3161", func := "pub-rubrication/laws.FnEntryParse", spec := "fnEntryParse", unfollowed := true, recurses := true, named := ["strings.asciiSpace", "unicode/utf8.first", "unicode/utf8.acceptRanges", "unicode.White_Space", "strconv.ErrSyntax", "strconv.ErrRange", "internal/strconv.uint64pow10", "math/bits.deBruijn32tab", "math/bits.deBruijn64tab"], apart := false, laid := [("math/bits.deBruijn32tab", laid_math_bits_deBruijn32tab), ("math/bits.deBruijn64tab", laid_math_bits_deBruijn64tab), ("internal/strconv.uint64pow10", laid_internal_strconv_uint64pow10), ("unicode/utf8.acceptRanges", laid_unicode_utf8_acceptRanges), ("strconv.ErrRange", laid_strconv_ErrRange), ("strconv.ErrSyntax", laid_strconv_ErrSyntax), ("unicode.White_Space", laid_unicode_White_Space), ("strings.asciiSpace", laid_strings_asciiSpace), ("unicode/utf8.first", laid_unicode_utf8_first)] }
def FnEntryParseSaid : Prop := fnEntryParseRow.holds Tryd.pinned (OpenSpec.ofChange fnEntryParseSpec)

/-- ITS FALSE NEIGHBOUR: 'it returns false'. Refute it at one input. -/
def fnEntryParseWrong : ChangeSpec := { name := "fnEntryParse", fn := fun _ => fun
  | [d] => { results := [.lit (.bool false)], args := [d] }
  | _ => none }
def FnEntryParseWrongFalsely : Prop := fnEntryParseRow.holds Tryd.pinned (OpenSpec.ofChange fnEntryParseWrong)

/-- 'laws.FnEntryChain': WHATEVER THE INPUT: true; the input reads as it did. -/
def fnEntryChainSpec : ChangeSpec := { name := "fnEntryChain", fn := fun _ => fun
  | [d1, d2, d3] => { results := [.lit (.bool true)], args := [d1, d2, d3] }
  | _ => none }
def fnEntryChainRow : OpenClaim := { program := "ytifhhejohdmiaaadoor", sum := "d288f4930680a7ff371e13b5a28cb752f48038ad173a54b7561229a366be3161", func := "pub-rubrication/laws.FnEntryChain", spec := "fnEntryChain", unfollowed := true, recurses := true, named := ["strings.asciiSpace", "unicode/utf8.first", "unicode/utf8.acceptRanges", "unicode.White_Space", "strconv.ErrSyntax", "strconv.ErrRange", "internal/strconv.uint64pow10", "math/bits.deBruijn32tab", "math/bits.deBruijn64tab"], apart := false, laid := [("math/bits.deBruijn32tab", laid_math_bits_deBruijn32tab), ("math/bits.deBruijn64tab", laid_math_bits_deBruijn64tab), ("internal/strconv.uint64pow10", laid_internal_strconv_uint64pow10), ("unicode/utf8.acceptRanges", laid_unicode_utf8_acceptRanges), ("strconv.ErrRange", laid_strconv_ErrRange), ("strconv.ErrSyntax", laid_strconv_ErrSyntax), ("unicode.White_Space", laid_unicode_White_Space), ("strings.asciiSpace", laid_strings_asciiSpace), ("unicode/utf8.first", laid_unicode_utf8_first)] }
def FnEntryChainSaid : Prop := fnEntryChainRow.holds Tryd.pinned (OpenSpec.ofChange fnEntryChainSpec)

/-- ITS FALSE NEIGHBOUR: 'it returns false'. Refute it at one input. -/
def fnEntryChainWrong : ChangeSpec := { name := "fnEntryChain", fn := fun _ => fun
  | [d1, d2, d3] => { results := [.lit (.bool false)], args := [d1, d2, d3] }
  | _ => none }
def FnEntryChainWrongFalsely : Prop := fnEntryChainRow.holds Tryd.pinned (OpenSpec.ofChange fnEntryChainWrong)

/-- 'laws.FnEntryInherit': WHATEVER THE INPUT: true; the input reads as it did. -/
def fnEntryInheritSpec : ChangeSpec := { name := "fnEntryInherit", fn := fun _ => fun
  | [d1, d2] => { results := [.lit (.bool true)], args := [d1, d2] }
  | _ => none }
def fnEntryInheritRow : OpenClaim := { program := "ytifhhejohdmiaaadoor", sum := "d288f4930680a7ff371e13b5a28cb752f48038ad173a54b7561229a366be3161", func := "pub-rubrication/laws.FnEntryInherit", spec := "fnEntryInherit", unfollowed := true, recurses := true, named := ["strings.asciiSpace", "unicode/utf8.first", "unicode/utf8.acceptRanges", "unicode.White_Space", "strconv.ErrSyntax", "strconv.ErrRange", "internal/strconv.uint64pow10", "math/bits.deBruijn32tab", "math/bits.deBruijn64tab"], apart := false, laid := [("math/bits.deBruijn32tab", laid_math_bits_deBruijn32tab), ("math/bits.deBruijn64tab", laid_math_bits_deBruijn64tab), ("internal/strconv.uint64pow10", laid_internal_strconv_uint64pow10), ("unicode/utf8.acceptRanges", laid_unicode_utf8_acceptRanges), ("strconv.ErrRange", laid_strconv_ErrRange), ("strconv.ErrSyntax", laid_strconv_ErrSyntax), ("unicode.White_Space", laid_unicode_White_Space), ("strings.asciiSpace", laid_strings_asciiSpace), ("unicode/utf8.first", laid_unicode_utf8_first)] }
def FnEntryInheritSaid : Prop := fnEntryInheritRow.holds Tryd.pinned (OpenSpec.ofChange fnEntryInheritSpec)

/-- ITS FALSE NEIGHBOUR: 'it returns false'. Refute it at one input. -/
def fnEntryInheritWrong : ChangeSpec := { name := "fnEntryInherit", fn := fun _ => fun
  | [d1, d2] => { results := [.lit (.bool false)], args := [d1, d2] }
  | _ => none }
def FnEntryInheritWrongFalsely : Prop := fnEntryInheritRow.holds Tryd.pinned (OpenSpec.ofChange fnEntryInheritWrong)

/-- 'laws.FnEntrySub': WHATEVER THE INPUT: true; the input reads as it did. -/
def fnEntrySubSpec : ChangeSpec := { name := "fnEntrySub", fn := fun _ => fun
  | [d1, d2] => { results := [.lit (.bool true)], args := [d1, d2] }
  | _ => none }
def fnEntrySubRow : OpenClaim := { program := "ytifhhejohdmiaaadoor", sum := "d288f4930680a7ff371e13b5a28cb752f48038ad173a54b7561229a366be3161", func := "pub-rubrication/laws.FnEntrySub", spec := "fnEntrySub", unfollowed := true, recurses := true, named := ["strings.asciiSpace", "unicode/utf8.first", "unicode/utf8.acceptRanges", "unicode.White_Space", "strconv.ErrSyntax", "strconv.ErrRange", "internal/strconv.uint64pow10", "math/bits.deBruijn32tab", "math/bits.deBruijn64tab"], apart := false, laid := [("math/bits.deBruijn32tab", laid_math_bits_deBruijn32tab), ("math/bits.deBruijn64tab", laid_math_bits_deBruijn64tab), ("internal/strconv.uint64pow10", laid_internal_strconv_uint64pow10), ("unicode/utf8.acceptRanges", laid_unicode_utf8_acceptRanges), ("strconv.ErrRange", laid_strconv_ErrRange), ("strconv.ErrSyntax", laid_strconv_ErrSyntax), ("unicode.White_Space", laid_unicode_White_Space), ("strings.asciiSpace", laid_strings_asciiSpace), ("unicode/utf8.first", laid_unicode_utf8_first)] }
def FnEntrySubSaid : Prop := fnEntrySubRow.holds Tryd.pinned (OpenSpec.ofChange fnEntrySubSpec)

/-- ITS FALSE NEIGHBOUR: 'it returns false'. Refute it at one input. -/
def fnEntrySubWrong : ChangeSpec := { name := "fnEntrySub", fn := fun _ => fun
  | [d1, d2] => { results := [.lit (.bool false)], args := [d1, d2] }
  | _ => none }
def FnEntrySubWrongFalsely : Prop := fnEntrySubRow.holds Tryd.pinned (OpenSpec.ofChange fnEntrySubWrong)

/-- 'laws.FnEntryBack': WHATEVER THE INPUT: true; the input reads as it did. -/
def fnEntryBackSpec : ChangeSpec := { name := "fnEntryBack", fn := fun _ => fun
  | [d] => { results := [.lit (.bool true)], args := [d] }
  | _ => none }
def fnEntryBackRow : OpenClaim := { program := "ytifhhejohdmiaaadoor", sum := "d288f4930680a7ff371e13b5a28cb752f48038ad173a54b7561229a366be3161", func := "pub-rubrication/laws.FnEntryBack", spec := "fnEntryBack", inPlace := ["internal/abi.NoEscape", "internal/bytealg.MakeNoZero"], unfollowed := true, recurses := true, named := ["internal/strconv.uint64pow10", "math/bits.deBruijn32tab", "math/bits.deBruijn64tab", "strings.asciiSpace", "unicode/utf8.first", "unicode/utf8.acceptRanges", "unicode.White_Space", "strconv.ErrSyntax", "strconv.ErrRange"], apart := false, laid := [("math/bits.deBruijn32tab", laid_math_bits_deBruijn32tab), ("math/bits.deBruijn64tab", laid_math_bits_deBruijn64tab), ("internal/strconv.uint64pow10", laid_internal_strconv_uint64pow10), ("unicode/utf8.acceptRanges", laid_unicode_utf8_acceptRanges), ("strconv.ErrRange", laid_strconv_ErrRange), ("strconv.ErrSyntax", laid_strconv_ErrSyntax), ("unicode.White_Space", laid_unicode_White_Space), ("strings.asciiSpace", laid_strings_asciiSpace), ("unicode/utf8.first", laid_unicode_utf8_first)] }
def FnEntryBackSaid : Prop := fnEntryBackRow.holds Tryd.pinned (OpenSpec.ofChange fnEntryBackSpec)

/-- ITS FALSE NEIGHBOUR: 'it returns false'. Refute it at one input. -/
def fnEntryBackWrong : ChangeSpec := { name := "fnEntryBack", fn := fun _ => fun
  | [d] => { results := [.lit (.bool false)], args := [d] }
  | _ => none }
def FnEntryBackWrongFalsely : Prop := fnEntryBackRow.holds Tryd.pinned (OpenSpec.ofChange fnEntryBackWrong)

/-- 'laws.FnEntryTwice': WHATEVER THE INPUT: true; the input reads as it did. -/
def fnEntryTwiceSpec : ChangeSpec := { name := "fnEntryTwice", fn := fun _ => fun
  | [d] => { results := [.lit (.bool true)], args := [d] }
  | _ => none }
def fnEntryTwiceRow : OpenClaim := { program := "ytifhhejohdmiaaadoor", sum := "d288f4930680a7ff371e13b5a28cb752f48038ad173a54b7561229a366be3161", func := "pub-rubrication/laws.FnEntryTwice", spec := "fnEntryTwice", inPlace := ["internal/abi.NoEscape", "internal/bytealg.MakeNoZero"], unfollowed := true, recurses := true, named := ["strings.asciiSpace", "unicode/utf8.first", "unicode/utf8.acceptRanges", "unicode.White_Space", "strconv.ErrSyntax", "strconv.ErrRange", "internal/strconv.uint64pow10", "math/bits.deBruijn32tab", "math/bits.deBruijn64tab"], apart := false, laid := [("math/bits.deBruijn32tab", laid_math_bits_deBruijn32tab), ("math/bits.deBruijn64tab", laid_math_bits_deBruijn64tab), ("internal/strconv.uint64pow10", laid_internal_strconv_uint64pow10), ("unicode/utf8.acceptRanges", laid_unicode_utf8_acceptRanges), ("strconv.ErrRange", laid_strconv_ErrRange), ("strconv.ErrSyntax", laid_strconv_ErrSyntax), ("unicode.White_Space", laid_unicode_White_Space), ("strings.asciiSpace", laid_strings_asciiSpace), ("unicode/utf8.first", laid_unicode_utf8_first)] }
def FnEntryTwiceSaid : Prop := fnEntryTwiceRow.holds Tryd.pinned (OpenSpec.ofChange fnEntryTwiceSpec)

/-- ITS FALSE NEIGHBOUR: 'it returns false'. Refute it at one input. -/
def fnEntryTwiceWrong : ChangeSpec := { name := "fnEntryTwice", fn := fun _ => fun
  | [d] => { results := [.lit (.bool false)], args := [d] }
  | _ => none }
def FnEntryTwiceWrongFalsely : Prop := fnEntryTwiceRow.holds Tryd.pinned (OpenSpec.ofChange fnEntryTwiceWrong)

/-- 'laws.FnStyleOrder': WHATEVER THE INPUT: true; the input reads as it did. -/
def fnStyleOrderSpec : ChangeSpec := { name := "fnStyleOrder", fn := fun _ => fun
  | [d1, d2, d3] => { results := [.lit (.bool true)], args := [d1, d2, d3] }
  | _ => none }
def fnStyleOrderRow : OpenClaim := { program := "ytifhhejohdmiaaadoor", sum := "d288f4930680a7ff371e13b5a28cb752f48038ad173a54b7561229a366be3161", func := "pub-rubrication/laws.FnStyleOrder", spec := "fnStyleOrder", unfollowed := true, recurses := true, named := ["strings.asciiSpace", "unicode/utf8.first", "unicode/utf8.acceptRanges", "unicode.White_Space", "strconv.ErrSyntax", "strconv.ErrRange", "internal/strconv.uint64pow10", "math/bits.deBruijn32tab", "math/bits.deBruijn64tab"], apart := false, laid := [("math/bits.deBruijn32tab", laid_math_bits_deBruijn32tab), ("math/bits.deBruijn64tab", laid_math_bits_deBruijn64tab), ("internal/strconv.uint64pow10", laid_internal_strconv_uint64pow10), ("unicode/utf8.acceptRanges", laid_unicode_utf8_acceptRanges), ("strconv.ErrRange", laid_strconv_ErrRange), ("strconv.ErrSyntax", laid_strconv_ErrSyntax), ("unicode.White_Space", laid_unicode_White_Space), ("strings.asciiSpace", laid_strings_asciiSpace), ("unicode/utf8.first", laid_unicode_utf8_first)] }
def FnStyleOrderSaid : Prop := fnStyleOrderRow.holds Tryd.pinned (OpenSpec.ofChange fnStyleOrderSpec)

/-- ITS FALSE NEIGHBOUR: 'it returns false'. Refute it at one input. -/
def fnStyleOrderWrong : ChangeSpec := { name := "fnStyleOrder", fn := fun _ => fun
  | [d1, d2, d3] => { results := [.lit (.bool false)], args := [d1, d2, d3] }
  | _ => none }
def FnStyleOrderWrongFalsely : Prop := fnStyleOrderRow.holds Tryd.pinned (OpenSpec.ofChange fnStyleOrderWrong)

/-- 'laws.FnStyleOwn': WHATEVER THE INPUT: true; the input reads as it did. -/
def fnStyleOwnSpec : ChangeSpec := { name := "fnStyleOwn", fn := fun _ => fun
  | [d1, d2, d3] => { results := [.lit (.bool true)], args := [d1, d2, d3] }
  | _ => none }
def fnStyleOwnRow : OpenClaim := { program := "ytifhhejohdmiaaadoor", sum := "d288f4930680a7ff371e13b5a28cb752f48038ad173a54b7561229a366be3161", func := "pub-rubrication/laws.FnStyleOwn", spec := "fnStyleOwn", inPlace := ["internal/abi.NoEscape", "internal/bytealg.MakeNoZero"], unfollowed := true, recurses := true, named := ["strings.asciiSpace", "unicode/utf8.first", "unicode/utf8.acceptRanges", "unicode.White_Space", "strconv.ErrSyntax", "strconv.ErrRange", "internal/strconv.uint64pow10", "math/bits.deBruijn32tab", "math/bits.deBruijn64tab"], apart := false, laid := [("math/bits.deBruijn32tab", laid_math_bits_deBruijn32tab), ("math/bits.deBruijn64tab", laid_math_bits_deBruijn64tab), ("internal/strconv.uint64pow10", laid_internal_strconv_uint64pow10), ("unicode/utf8.acceptRanges", laid_unicode_utf8_acceptRanges), ("strconv.ErrRange", laid_strconv_ErrRange), ("strconv.ErrSyntax", laid_strconv_ErrSyntax), ("unicode.White_Space", laid_unicode_White_Space), ("strings.asciiSpace", laid_strings_asciiSpace), ("unicode/utf8.first", laid_unicode_utf8_first)] }
def FnStyleOwnSaid : Prop := fnStyleOwnRow.holds Tryd.pinned (OpenSpec.ofChange fnStyleOwnSpec)

/-- ITS FALSE NEIGHBOUR: 'it returns false'. Refute it at one input. -/
def fnStyleOwnWrong : ChangeSpec := { name := "fnStyleOwn", fn := fun _ => fun
  | [d1, d2, d3] => { results := [.lit (.bool false)], args := [d1, d2, d3] }
  | _ => none }
def FnStyleOwnWrongFalsely : Prop := fnStyleOwnRow.holds Tryd.pinned (OpenSpec.ofChange fnStyleOwnWrong)

/- THE SECOND FORM. 'bulk': how many values and letters a reading holds, each counted each time it is reached (what is shared counts as often as it is met; a slice's spare places count too). A statement '..UptoSaid' is the law's where the arguments, and the package variables that the reading takes, are together of bulk at most 1048576: NARROWER than '..Said'. Prove '..Said' where nothing that the law and all that it calls make is longer than what came in: it says more and counts as full. Else prove '..UptoSaid'. A law counts once. -/
mutual
def uptoBulk {H : Type} : DataW H → Nat
  | .lit (.string bytes) => bytes.length + 1
  | .lit _ => 1
  | .nil => 1
  | .ptr d => uptoBulk d + 1
  | .slice elems spare => uptoBulkAll elems + uptoBulkAll spare + 1
  | .agg parts => uptoBulkAll parts + 1
  | .iface _ d => uptoBulk d + 1
  | .map entries => uptoBulkEntries entries + 1
  | .held _ => 1
def uptoBulkAll {H : Type} : List (DataW H) → Nat
  | [] => 0
  | d :: r => uptoBulk d + uptoBulkAll r
def uptoBulkEntries {H : Type} : List (Lit × DataW H) → Nat
  | [] => 0
  | x :: r => uptoBulkEntry x + uptoBulkEntries r
def uptoBulkEntry {H : Type} : Lit × DataW H → Nat
  | (.string bytes, d) => bytes.length + uptoBulk d + 1
  | (_, d) => uptoBulk d + 1
 end
def uptoSmall : (H : Type) → List (DataW H) → Bool := fun _ ds => decide (uptoBulkAll ds ≤ 1048576)
def OpenSpec.upto (s : _root_.Go.ChangeSpec) : _root_.Go.OpenSpec := { _root_.Go.OpenSpec.ofChange s with cond := some uptoSmall }

/-- 'laws.FnEntryZero', WHERE WHAT IT READS IS OF BULK AT MOST 1048576: true; the input reads as it did. -/
def fnEntryZeroUptoRow : OpenClaim := { program := "ytifhhejohdmiaaadoor", sum := "d288f4930680a7ff371e13b5a28cb752f48038ad173a54b7561229a366be3161", func := "pub-rubrication/laws.FnEntryZero", spec := "fnEntryZero", unfollowed := true, recurses := true, named := ["strings.asciiSpace", "unicode/utf8.first", "unicode/utf8.acceptRanges", "unicode.White_Space", "strconv.ErrSyntax", "strconv.ErrRange", "internal/strconv.uint64pow10", "math/bits.deBruijn32tab", "math/bits.deBruijn64tab"], apart := false, laid := [("math/bits.deBruijn32tab", laid_math_bits_deBruijn32tab), ("math/bits.deBruijn64tab", laid_math_bits_deBruijn64tab), ("internal/strconv.uint64pow10", laid_internal_strconv_uint64pow10), ("unicode/utf8.acceptRanges", laid_unicode_utf8_acceptRanges), ("strconv.ErrRange", laid_strconv_ErrRange), ("strconv.ErrSyntax", laid_strconv_ErrSyntax), ("unicode.White_Space", laid_unicode_White_Space), ("strings.asciiSpace", laid_strings_asciiSpace), ("unicode/utf8.first", laid_unicode_utf8_first)], narrowed := true }
def FnEntryZeroUptoSaid : Prop := fnEntryZeroUptoRow.holds Tryd.pinned (OpenSpec.upto fnEntryZeroSpec)

/-- 'laws.FnEntryParse', WHERE WHAT IT READS IS OF BULK AT MOST 1048576: true; the input reads as it did. -/
def fnEntryParseUptoRow : OpenClaim := { program := "ytifhhejohdmiaaadoor", sum := "d288f4930680a7ff371e13b5a28cb752f48038ad173a54b7561229a366be3161", func := "pub-rubrication/laws.FnEntryParse", spec := "fnEntryParse", unfollowed := true, recurses := true, named := ["strings.asciiSpace", "unicode/utf8.first", "unicode/utf8.acceptRanges", "unicode.White_Space", "strconv.ErrSyntax", "strconv.ErrRange", "internal/strconv.uint64pow10", "math/bits.deBruijn32tab", "math/bits.deBruijn64tab"], apart := false, laid := [("math/bits.deBruijn32tab", laid_math_bits_deBruijn32tab), ("math/bits.deBruijn64tab", laid_math_bits_deBruijn64tab), ("internal/strconv.uint64pow10", laid_internal_strconv_uint64pow10), ("unicode/utf8.acceptRanges", laid_unicode_utf8_acceptRanges), ("strconv.ErrRange", laid_strconv_ErrRange), ("strconv.ErrSyntax", laid_strconv_ErrSyntax), ("unicode.White_Space", laid_unicode_White_Space), ("strings.asciiSpace", laid_strings_asciiSpace), ("unicode/utf8.first", laid_unicode_utf8_first)], narrowed := true }
def FnEntryParseUptoSaid : Prop := fnEntryParseUptoRow.holds Tryd.pinned (OpenSpec.upto fnEntryParseSpec)

/-- 'laws.FnEntryChain', WHERE WHAT IT READS IS OF BULK AT MOST 1048576: true; the input reads as it did. -/
def fnEntryChainUptoRow : OpenClaim := { program := "ytifhhejohdmiaaadoor", sum := "d288f4930680a7ff371e13b5a28cb752f48038ad173a54b7561229a366be3161", func := "pub-rubrication/laws.FnEntryChain", spec := "fnEntryChain", unfollowed := true, recurses := true, named := ["strings.asciiSpace", "unicode/utf8.first", "unicode/utf8.acceptRanges", "unicode.White_Space", "strconv.ErrSyntax", "strconv.ErrRange", "internal/strconv.uint64pow10", "math/bits.deBruijn32tab", "math/bits.deBruijn64tab"], apart := false, laid := [("math/bits.deBruijn32tab", laid_math_bits_deBruijn32tab), ("math/bits.deBruijn64tab", laid_math_bits_deBruijn64tab), ("internal/strconv.uint64pow10", laid_internal_strconv_uint64pow10), ("unicode/utf8.acceptRanges", laid_unicode_utf8_acceptRanges), ("strconv.ErrRange", laid_strconv_ErrRange), ("strconv.ErrSyntax", laid_strconv_ErrSyntax), ("unicode.White_Space", laid_unicode_White_Space), ("strings.asciiSpace", laid_strings_asciiSpace), ("unicode/utf8.first", laid_unicode_utf8_first)], narrowed := true }
def FnEntryChainUptoSaid : Prop := fnEntryChainUptoRow.holds Tryd.pinned (OpenSpec.upto fnEntryChainSpec)

/-- 'laws.FnEntryInherit', WHERE WHAT IT READS IS OF BULK AT MOST 1048576: true; the input reads as it did. -/
def fnEntryInheritUptoRow : OpenClaim := { program := "ytifhhejohdmiaaadoor", sum := "d288f4930680a7ff371e13b5a28cb752f48038ad173a54b7561229a366be3161", func := "pub-rubrication/laws.FnEntryInherit", spec := "fnEntryInherit", unfollowed := true, recurses := true, named := ["strings.asciiSpace", "unicode/utf8.first", "unicode/utf8.acceptRanges", "unicode.White_Space", "strconv.ErrSyntax", "strconv.ErrRange", "internal/strconv.uint64pow10", "math/bits.deBruijn32tab", "math/bits.deBruijn64tab"], apart := false, laid := [("math/bits.deBruijn32tab", laid_math_bits_deBruijn32tab), ("math/bits.deBruijn64tab", laid_math_bits_deBruijn64tab), ("internal/strconv.uint64pow10", laid_internal_strconv_uint64pow10), ("unicode/utf8.acceptRanges", laid_unicode_utf8_acceptRanges), ("strconv.ErrRange", laid_strconv_ErrRange), ("strconv.ErrSyntax", laid_strconv_ErrSyntax), ("unicode.White_Space", laid_unicode_White_Space), ("strings.asciiSpace", laid_strings_asciiSpace), ("unicode/utf8.first", laid_unicode_utf8_first)], narrowed := true }
def FnEntryInheritUptoSaid : Prop := fnEntryInheritUptoRow.holds Tryd.pinned (OpenSpec.upto fnEntryInheritSpec)

/-- 'laws.FnEntrySub', WHERE WHAT IT READS IS OF BULK AT MOST 1048576: true; the input reads as it did. -/
def fnEntrySubUptoRow : OpenClaim := { program := "ytifhhejohdmiaaadoor", sum := "d288f4930680a7ff371e13b5a28cb752f48038ad173a54b7561229a366be3161", func := "pub-rubrication/laws.FnEntrySub", spec := "fnEntrySub", unfollowed := true, recurses := true, named := ["strings.asciiSpace", "unicode/utf8.first", "unicode/utf8.acceptRanges", "unicode.White_Space", "strconv.ErrSyntax", "strconv.ErrRange", "internal/strconv.uint64pow10", "math/bits.deBruijn32tab", "math/bits.deBruijn64tab"], apart := false, laid := [("math/bits.deBruijn32tab", laid_math_bits_deBruijn32tab), ("math/bits.deBruijn64tab", laid_math_bits_deBruijn64tab), ("internal/strconv.uint64pow10", laid_internal_strconv_uint64pow10), ("unicode/utf8.acceptRanges", laid_unicode_utf8_acceptRanges), ("strconv.ErrRange", laid_strconv_ErrRange), ("strconv.ErrSyntax", laid_strconv_ErrSyntax), ("unicode.White_Space", laid_unicode_White_Space), ("strings.asciiSpace", laid_strings_asciiSpace), ("unicode/utf8.first", laid_unicode_utf8_first)], narrowed := true }
def FnEntrySubUptoSaid : Prop := fnEntrySubUptoRow.holds Tryd.pinned (OpenSpec.upto fnEntrySubSpec)

/-- 'laws.FnEntryBack', WHERE WHAT IT READS IS OF BULK AT MOST 1048576: true; the input reads as it did. -/
def fnEntryBackUptoRow : OpenClaim := { program := "ytifhhejohdmiaaadoor", sum := "d288f4930680a7ff371e13b5a28cb752f48038ad173a54b7561229a366be3161", func := "pub-rubrication/laws.FnEntryBack", spec := "fnEntryBack", inPlace := ["internal/abi.NoEscape", "internal/bytealg.MakeNoZero"], unfollowed := true, recurses := true, named := ["internal/strconv.uint64pow10", "math/bits.deBruijn32tab", "math/bits.deBruijn64tab", "strings.asciiSpace", "unicode/utf8.first", "unicode/utf8.acceptRanges", "unicode.White_Space", "strconv.ErrSyntax", "strconv.ErrRange"], apart := false, laid := [("math/bits.deBruijn32tab", laid_math_bits_deBruijn32tab), ("math/bits.deBruijn64tab", laid_math_bits_deBruijn64tab), ("internal/strconv.uint64pow10", laid_internal_strconv_uint64pow10), ("unicode/utf8.acceptRanges", laid_unicode_utf8_acceptRanges), ("strconv.ErrRange", laid_strconv_ErrRange), ("strconv.ErrSyntax", laid_strconv_ErrSyntax), ("unicode.White_Space", laid_unicode_White_Space), ("strings.asciiSpace", laid_strings_asciiSpace), ("unicode/utf8.first", laid_unicode_utf8_first)], narrowed := true }
def FnEntryBackUptoSaid : Prop := fnEntryBackUptoRow.holds Tryd.pinned (OpenSpec.upto fnEntryBackSpec)

/-- 'laws.FnEntryTwice', WHERE WHAT IT READS IS OF BULK AT MOST 1048576: true; the input reads as it did. -/
def fnEntryTwiceUptoRow : OpenClaim := { program := "ytifhhejohdmiaaadoor", sum := "d288f4930680a7ff371e13b5a28cb752f48038ad173a54b7561229a366be3161", func := "pub-rubrication/laws.FnEntryTwice", spec := "fnEntryTwice", inPlace := ["internal/abi.NoEscape", "internal/bytealg.MakeNoZero"], unfollowed := true, recurses := true, named := ["strings.asciiSpace", "unicode/utf8.first", "unicode/utf8.acceptRanges", "unicode.White_Space", "strconv.ErrSyntax", "strconv.ErrRange", "internal/strconv.uint64pow10", "math/bits.deBruijn32tab", "math/bits.deBruijn64tab"], apart := false, laid := [("math/bits.deBruijn32tab", laid_math_bits_deBruijn32tab), ("math/bits.deBruijn64tab", laid_math_bits_deBruijn64tab), ("internal/strconv.uint64pow10", laid_internal_strconv_uint64pow10), ("unicode/utf8.acceptRanges", laid_unicode_utf8_acceptRanges), ("strconv.ErrRange", laid_strconv_ErrRange), ("strconv.ErrSyntax", laid_strconv_ErrSyntax), ("unicode.White_Space", laid_unicode_White_Space), ("strings.asciiSpace", laid_strings_asciiSpace), ("unicode/utf8.first", laid_unicode_utf8_first)], narrowed := true }
def FnEntryTwiceUptoSaid : Prop := fnEntryTwiceUptoRow.holds Tryd.pinned (OpenSpec.upto fnEntryTwiceSpec)

/-- 'laws.FnStyleOrder', WHERE WHAT IT READS IS OF BULK AT MOST 1048576: true; the input reads as it did. -/
def fnStyleOrderUptoRow : OpenClaim := { program := "ytifhhejohdmiaaadoor", sum := "d288f4930680a7ff371e13b5a28cb752f48038ad173a54b7561229a366be3161", func := "pub-rubrication/laws.FnStyleOrder", spec := "fnStyleOrder", unfollowed := true, recurses := true, named := ["strings.asciiSpace", "unicode/utf8.first", "unicode/utf8.acceptRanges", "unicode.White_Space", "strconv.ErrSyntax", "strconv.ErrRange", "internal/strconv.uint64pow10", "math/bits.deBruijn32tab", "math/bits.deBruijn64tab"], apart := false, laid := [("math/bits.deBruijn32tab", laid_math_bits_deBruijn32tab), ("math/bits.deBruijn64tab", laid_math_bits_deBruijn64tab), ("internal/strconv.uint64pow10", laid_internal_strconv_uint64pow10), ("unicode/utf8.acceptRanges", laid_unicode_utf8_acceptRanges), ("strconv.ErrRange", laid_strconv_ErrRange), ("strconv.ErrSyntax", laid_strconv_ErrSyntax), ("unicode.White_Space", laid_unicode_White_Space), ("strings.asciiSpace", laid_strings_asciiSpace), ("unicode/utf8.first", laid_unicode_utf8_first)], narrowed := true }
def FnStyleOrderUptoSaid : Prop := fnStyleOrderUptoRow.holds Tryd.pinned (OpenSpec.upto fnStyleOrderSpec)

/-- 'laws.FnStyleOwn', WHERE WHAT IT READS IS OF BULK AT MOST 1048576: true; the input reads as it did. -/
def fnStyleOwnUptoRow : OpenClaim := { program := "ytifhhejohdmiaaadoor", sum := "d288f4930680a7ff371e13b5a28cb752f48038ad173a54b7561229a366be3161", func := "pub-rubrication/laws.FnStyleOwn", spec := "fnStyleOwn", inPlace := ["internal/abi.NoEscape", "internal/bytealg.MakeNoZero"], unfollowed := true, recurses := true, named := ["strings.asciiSpace", "unicode/utf8.first", "unicode/utf8.acceptRanges", "unicode.White_Space", "strconv.ErrSyntax", "strconv.ErrRange", "internal/strconv.uint64pow10", "math/bits.deBruijn32tab", "math/bits.deBruijn64tab"], apart := false, laid := [("math/bits.deBruijn32tab", laid_math_bits_deBruijn32tab), ("math/bits.deBruijn64tab", laid_math_bits_deBruijn64tab), ("internal/strconv.uint64pow10", laid_internal_strconv_uint64pow10), ("unicode/utf8.acceptRanges", laid_unicode_utf8_acceptRanges), ("strconv.ErrRange", laid_strconv_ErrRange), ("strconv.ErrSyntax", laid_strconv_ErrSyntax), ("unicode.White_Space", laid_unicode_White_Space), ("strings.asciiSpace", laid_strings_asciiSpace), ("unicode/utf8.first", laid_unicode_utf8_first)], narrowed := true }
def FnStyleOwnUptoSaid : Prop := fnStyleOwnUptoRow.holds Tryd.pinned (OpenSpec.upto fnStyleOwnSpec)

end Rows
end Go.Proofs.YtifhhejohdmiaaaDoor
