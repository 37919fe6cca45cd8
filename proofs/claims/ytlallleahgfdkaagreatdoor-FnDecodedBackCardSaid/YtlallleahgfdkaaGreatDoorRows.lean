/-
  NARROWER THAN 'FOR EVERY INPUT', by the rows' own cells (each row's printed sentence says how): FnContains: laid · FnTrimmedPut: laid · FnDecodeHex: laid · FnLetters: laid · FnLettersAgree: laid · FnTrimEnds: laid · FnReverse: laid · FnTrim: laid · FnTrimmedTwice: laid · FnCount: laid · FnReversed: laid · FnInParts: laid · FnSubstring: laid · FnDecodedBack: laid.
  DERIVED. THE GIVEN ROWS OF THIS SEAT. 14 by the template 'for every input the law returns true; each argument reads behind the call as it read before'; 0 by the template 'total and deterministic' (their statements: YtlallleahgfdkaaGreatDoorTotals.lean).
  GIVEN WITH THE SEED: the statements are not yours to turn. If you find one false, say at which input.
  Laid BY PROGRAM, IN A SANDBOX (cutbox-rows.mjs): the forced cells as the released guide's own fill.sh prints them over the translation 9d6a5f9452e1bc05… (all of the seat's roots in one cut). By AI agents, Wed Nov 11 2026. No macro, syntax, notation, axiom, sorry.
-/
import Derived.Test.YtlallleahgfdkaaGreatDoorChecked
import GoSem.PinnedTables
import GoSem.Claim
import GoSem.ClaimJoined
import GoSem.ClaimMapViews
import Derived.JoinedTies
import Derived.KernelRfl
namespace Go.Proofs.YtlallleahgfdkaaGreatDoor
/- THE CELL 'sum', in the pinned program and in every row, IS THE sha256 OF THE DUMP (.gsa) THAT YtlallleahgfdkaaGreatDoorProg.lean LOADS. Nothing in Lean hashes anything: it is a label: what it is worth is what the hold of that sum in a sandbox is worth. -/
noncomputable def Tryz.pinned : Pinned := { name := "ytlallleahgfdkaagreatdoor", sum := "9d6a5f9452e1bc0593b86d43a789e6a119f273d895062f20bf1d965eaa6d2881", checked := Tryz.checked }
namespace Rows
def none {H : Type} : Left H := { results := [], args := [] }

/- WHAT THE LISTED PACKAGE-LEVEL VARIABLES READ AS WHEN THE CALL BEGINS. Each datum BY PROGRAM (the guide's laid-datum.mjs) off the statement by which the dump's own 'gosem.cut.vars' lays the variable. In a bare row this is a premise. The card (YtlallleahgfdkaaGreatDoorCards.lean) ties it to the program's text. -/
def laid_math_bits_deBruijn32tab {H : Type} : DataW H := .agg [.lit (.int .u8 0), .lit (.int .u8 1), .lit (.int .u8 28), .lit (.int .u8 2), .lit (.int .u8 29), .lit (.int .u8 14), .lit (.int .u8 24), .lit (.int .u8 3), .lit (.int .u8 30), .lit (.int .u8 22), .lit (.int .u8 20), .lit (.int .u8 15), .lit (.int .u8 25), .lit (.int .u8 17), .lit (.int .u8 4), .lit (.int .u8 8), .lit (.int .u8 31), .lit (.int .u8 27), .lit (.int .u8 13), .lit (.int .u8 23), .lit (.int .u8 21), .lit (.int .u8 19), .lit (.int .u8 16), .lit (.int .u8 7), .lit (.int .u8 26), .lit (.int .u8 12), .lit (.int .u8 18), .lit (.int .u8 6), .lit (.int .u8 11), .lit (.int .u8 5), .lit (.int .u8 10), .lit (.int .u8 9)]
def laid_math_bits_deBruijn64tab {H : Type} : DataW H := .agg [.lit (.int .u8 0), .lit (.int .u8 1), .lit (.int .u8 56), .lit (.int .u8 2), .lit (.int .u8 57), .lit (.int .u8 49), .lit (.int .u8 28), .lit (.int .u8 3), .lit (.int .u8 61), .lit (.int .u8 58), .lit (.int .u8 42), .lit (.int .u8 50), .lit (.int .u8 38), .lit (.int .u8 29), .lit (.int .u8 17), .lit (.int .u8 4), .lit (.int .u8 62), .lit (.int .u8 47), .lit (.int .u8 59), .lit (.int .u8 36), .lit (.int .u8 45), .lit (.int .u8 43), .lit (.int .u8 51), .lit (.int .u8 22), .lit (.int .u8 53), .lit (.int .u8 39), .lit (.int .u8 33), .lit (.int .u8 30), .lit (.int .u8 24), .lit (.int .u8 18), .lit (.int .u8 12), .lit (.int .u8 5), .lit (.int .u8 63), .lit (.int .u8 55), .lit (.int .u8 48), .lit (.int .u8 27), .lit (.int .u8 60), .lit (.int .u8 41), .lit (.int .u8 37), .lit (.int .u8 16), .lit (.int .u8 46), .lit (.int .u8 35), .lit (.int .u8 44), .lit (.int .u8 21), .lit (.int .u8 52), .lit (.int .u8 32), .lit (.int .u8 23), .lit (.int .u8 11), .lit (.int .u8 54), .lit (.int .u8 26), .lit (.int .u8 40), .lit (.int .u8 15), .lit (.int .u8 34), .lit (.int .u8 20), .lit (.int .u8 31), .lit (.int .u8 10), .lit (.int .u8 25), .lit (.int .u8 14), .lit (.int .u8 19), .lit (.int .u8 9), .lit (.int .u8 13), .lit (.int .u8 8), .lit (.int .u8 7), .lit (.int .u8 6)]
def laid_internal_strconv_uint64pow10 {H : Type} : DataW H := .agg [.lit (.int .u64 1), .lit (.int .u64 10), .lit (.int .u64 100), .lit (.int .u64 1000), .lit (.int .u64 10000), .lit (.int .u64 100000), .lit (.int .u64 1000000), .lit (.int .u64 10000000), .lit (.int .u64 100000000), .lit (.int .u64 1000000000), .lit (.int .u64 10000000000), .lit (.int .u64 100000000000), .lit (.int .u64 1000000000000), .lit (.int .u64 10000000000000), .lit (.int .u64 100000000000000), .lit (.int .u64 1000000000000000), .lit (.int .u64 10000000000000000), .lit (.int .u64 100000000000000000), .lit (.int .u64 1000000000000000000), .lit (.int .u64 10000000000000000000)]
def laid_unicode_utf8_acceptRanges {H : Type} : DataW H := .agg [.agg [.lit (.int .u8 128), .lit (.int .u8 191)], .agg [.lit (.int .u8 160), .lit (.int .u8 191)], .agg [.lit (.int .u8 128), .lit (.int .u8 159)], .agg [.lit (.int .u8 144), .lit (.int .u8 191)], .agg [.lit (.int .u8 128), .lit (.int .u8 143)], .agg [.lit (.int .u8 0), .lit (.int .u8 0)], .agg [.lit (.int .u8 0), .lit (.int .u8 0)], .agg [.lit (.int .u8 0), .lit (.int .u8 0)], .agg [.lit (.int .u8 0), .lit (.int .u8 0)], .agg [.lit (.int .u8 0), .lit (.int .u8 0)], .agg [.lit (.int .u8 0), .lit (.int .u8 0)], .agg [.lit (.int .u8 0), .lit (.int .u8 0)], .agg [.lit (.int .u8 0), .lit (.int .u8 0)], .agg [.lit (.int .u8 0), .lit (.int .u8 0)], .agg [.lit (.int .u8 0), .lit (.int .u8 0)], .agg [.lit (.int .u8 0), .lit (.int .u8 0)]]
def laid_encoding_hex_ErrLength {H : Type} : DataW H := .iface "*errors.errorString" (.ptr (.agg [.lit (.string [101, 110, 99, 111, 100, 105, 110, 103, 47, 104, 101, 120, 58, 32, 111, 100, 100, 32, 108, 101, 110, 103, 116, 104, 32, 104, 101, 120, 32, 115, 116, 114, 105, 110, 103])]))
/-- One of Go's own tables, pinned by name: the form's constant. -/
def laid_unicode_CaseRanges : DataW Unit := Go.Pinned.caseRanges
/-- One of Go's own tables, pinned by name: the form's constant. -/
def laid_unicode_utf8_first : DataW Unit := Go.Pinned.utf8First

/-- 'laws.FnContains': WHATEVER THE INPUT: true; the input reads as it did. -/
def fnContainsSpec : ChangeSpec := { name := "fnContains", fn := fun _ => fun
  | [d1, d2] => { results := [.lit (.bool true)], args := [d1, d2] }
  | _ => none }
def fnContainsRow : OpenClaim := { program := "ytlallleahgfdkaagreatdoor", sum := "9d6a5f9452e1bc0593b86d43a789e6a119f273d895062f20bf1d965eaa6d2881", func := "pub-regostrings/laws.FnContains", spec := "fnContains", inPlace := ["internal/abi.NoEscape", "internal/bytealg.MakeNoZero"], unfollowed := true, recurses := true, named := ["internal/strconv.uint64pow10", "math/bits.deBruijn32tab", "math/bits.deBruijn64tab"], apart := false, laid := [("math/bits.deBruijn32tab", laid_math_bits_deBruijn32tab), ("math/bits.deBruijn64tab", laid_math_bits_deBruijn64tab), ("internal/strconv.uint64pow10", laid_internal_strconv_uint64pow10)] }
def FnContainsSaid : Prop := fnContainsRow.holds Tryz.pinned (OpenSpec.ofChange fnContainsSpec)

/-- ITS FALSE NEIGHBOUR: 'it returns false'. Refute it at one input. -/
def fnContainsWrong : ChangeSpec := { name := "fnContains", fn := fun _ => fun
  | [d1, d2] => { results := [.lit (.bool false)], args := [d1, d2] }
  | _ => none }
def FnContainsWrongFalsely : Prop := fnContainsRow.holds Tryz.pinned (OpenSpec.ofChange fnContainsWrong)

/-- 'laws.FnTrimmedPut': WHATEVER THE INPUT: true; the input reads as it did. -/
def fnTrimmedPutSpec : ChangeSpec := { name := "fnTrimmedPut", fn := fun _ => fun
  | [d1, d2] => { results := [.lit (.bool true)], args := [d1, d2] }
  | _ => none }
def fnTrimmedPutRow : OpenClaim := { program := "ytlallleahgfdkaagreatdoor", sum := "9d6a5f9452e1bc0593b86d43a789e6a119f273d895062f20bf1d965eaa6d2881", func := "pub-regostrings/laws.FnTrimmedPut", spec := "fnTrimmedPut", inPlace := ["internal/abi.NoEscape", "internal/bytealg.MakeNoZero"], unfollowed := true, recurses := true, named := ["internal/strconv.uint64pow10", "math/bits.deBruijn32tab", "math/bits.deBruijn64tab"], apart := false, laid := [("math/bits.deBruijn32tab", laid_math_bits_deBruijn32tab), ("math/bits.deBruijn64tab", laid_math_bits_deBruijn64tab), ("internal/strconv.uint64pow10", laid_internal_strconv_uint64pow10)] }
def FnTrimmedPutSaid : Prop := fnTrimmedPutRow.holds Tryz.pinned (OpenSpec.ofChange fnTrimmedPutSpec)

/-- ITS FALSE NEIGHBOUR: 'it returns false'. Refute it at one input. -/
def fnTrimmedPutWrong : ChangeSpec := { name := "fnTrimmedPut", fn := fun _ => fun
  | [d1, d2] => { results := [.lit (.bool false)], args := [d1, d2] }
  | _ => none }
def FnTrimmedPutWrongFalsely : Prop := fnTrimmedPutRow.holds Tryz.pinned (OpenSpec.ofChange fnTrimmedPutWrong)

/-- 'laws.FnDecodeHex': WHATEVER THE INPUT: true; the input reads as it did. -/
def fnDecodeHexSpec : ChangeSpec := { name := "fnDecodeHex", fn := fun _ => fun
  | [d] => { results := [.lit (.bool true)], args := [d] }
  | _ => none }
def fnDecodeHexRow : OpenClaim := { program := "ytlallleahgfdkaagreatdoor", sum := "9d6a5f9452e1bc0593b86d43a789e6a119f273d895062f20bf1d965eaa6d2881", func := "pub-regostrings/laws.FnDecodeHex", spec := "fnDecodeHex", inPlace := ["internal/abi.NoEscape", "internal/bytealg.MakeNoZero"], unfollowed := true, recurses := true, named := ["unicode/utf8.first", "unicode/utf8.acceptRanges", "unicode.CaseRanges", "internal/strconv.uint64pow10", "math/bits.deBruijn32tab", "math/bits.deBruijn64tab", "encoding/hex.ErrLength"], apart := false, laid := [("math/bits.deBruijn32tab", laid_math_bits_deBruijn32tab), ("math/bits.deBruijn64tab", laid_math_bits_deBruijn64tab), ("internal/strconv.uint64pow10", laid_internal_strconv_uint64pow10), ("unicode/utf8.acceptRanges", laid_unicode_utf8_acceptRanges), ("encoding/hex.ErrLength", laid_encoding_hex_ErrLength), ("unicode.CaseRanges", laid_unicode_CaseRanges), ("unicode/utf8.first", laid_unicode_utf8_first)] }
def FnDecodeHexSaid : Prop := fnDecodeHexRow.holds Tryz.pinned (OpenSpec.ofChange fnDecodeHexSpec)

/-- ITS FALSE NEIGHBOUR: 'it returns false'. Refute it at one input. -/
def fnDecodeHexWrong : ChangeSpec := { name := "fnDecodeHex", fn := fun _ => fun
  | [d] => { results := [.lit (.bool false)], args := [d] }
  | _ => none }
def FnDecodeHexWrongFalsely : Prop := fnDecodeHexRow.holds Tryz.pinned (OpenSpec.ofChange fnDecodeHexWrong)

/-- 'laws.FnLetters': WHATEVER THE INPUT: true; the input reads as it did. -/
def fnLettersSpec : ChangeSpec := { name := "fnLetters", fn := fun _ => fun
  | [d] => { results := [.lit (.bool true)], args := [d] }
  | _ => none }
def fnLettersRow : OpenClaim := { program := "ytlallleahgfdkaagreatdoor", sum := "9d6a5f9452e1bc0593b86d43a789e6a119f273d895062f20bf1d965eaa6d2881", func := "pub-regostrings/laws.FnLetters", spec := "fnLetters", inPlace := ["internal/abi.NoEscape", "internal/bytealg.MakeNoZero"], unfollowed := true, recurses := true, named := ["unicode/utf8.first", "unicode/utf8.acceptRanges", "unicode.CaseRanges", "internal/strconv.uint64pow10", "math/bits.deBruijn32tab", "math/bits.deBruijn64tab"], apart := false, laid := [("math/bits.deBruijn32tab", laid_math_bits_deBruijn32tab), ("math/bits.deBruijn64tab", laid_math_bits_deBruijn64tab), ("internal/strconv.uint64pow10", laid_internal_strconv_uint64pow10), ("unicode/utf8.acceptRanges", laid_unicode_utf8_acceptRanges), ("unicode.CaseRanges", laid_unicode_CaseRanges), ("unicode/utf8.first", laid_unicode_utf8_first)] }
def FnLettersSaid : Prop := fnLettersRow.holds Tryz.pinned (OpenSpec.ofChange fnLettersSpec)

/-- ITS FALSE NEIGHBOUR: 'it returns false'. Refute it at one input. -/
def fnLettersWrong : ChangeSpec := { name := "fnLetters", fn := fun _ => fun
  | [d] => { results := [.lit (.bool false)], args := [d] }
  | _ => none }
def FnLettersWrongFalsely : Prop := fnLettersRow.holds Tryz.pinned (OpenSpec.ofChange fnLettersWrong)

/-- 'laws.FnLettersAgree': WHATEVER THE INPUT: true; the input reads as it did. -/
def fnLettersAgreeSpec : ChangeSpec := { name := "fnLettersAgree", fn := fun _ => fun
  | [d] => { results := [.lit (.bool true)], args := [d] }
  | _ => none }
def fnLettersAgreeRow : OpenClaim := { program := "ytlallleahgfdkaagreatdoor", sum := "9d6a5f9452e1bc0593b86d43a789e6a119f273d895062f20bf1d965eaa6d2881", func := "pub-regostrings/laws.FnLettersAgree", spec := "fnLettersAgree", inPlace := ["internal/abi.NoEscape", "internal/bytealg.MakeNoZero"], unfollowed := true, recurses := true, named := ["unicode/utf8.first", "unicode/utf8.acceptRanges", "unicode.CaseRanges", "internal/strconv.uint64pow10", "math/bits.deBruijn32tab", "math/bits.deBruijn64tab"], apart := false, laid := [("math/bits.deBruijn32tab", laid_math_bits_deBruijn32tab), ("math/bits.deBruijn64tab", laid_math_bits_deBruijn64tab), ("internal/strconv.uint64pow10", laid_internal_strconv_uint64pow10), ("unicode/utf8.acceptRanges", laid_unicode_utf8_acceptRanges), ("unicode.CaseRanges", laid_unicode_CaseRanges), ("unicode/utf8.first", laid_unicode_utf8_first)] }
def FnLettersAgreeSaid : Prop := fnLettersAgreeRow.holds Tryz.pinned (OpenSpec.ofChange fnLettersAgreeSpec)

/-- ITS FALSE NEIGHBOUR: 'it returns false'. Refute it at one input. -/
def fnLettersAgreeWrong : ChangeSpec := { name := "fnLettersAgree", fn := fun _ => fun
  | [d] => { results := [.lit (.bool false)], args := [d] }
  | _ => none }
def FnLettersAgreeWrongFalsely : Prop := fnLettersAgreeRow.holds Tryz.pinned (OpenSpec.ofChange fnLettersAgreeWrong)

/-- 'laws.FnTrimEnds': WHATEVER THE INPUT: true; the input reads as it did. -/
def fnTrimEndsSpec : ChangeSpec := { name := "fnTrimEnds", fn := fun _ => fun
  | [d1, d2] => { results := [.lit (.bool true)], args := [d1, d2] }
  | _ => none }
def fnTrimEndsRow : OpenClaim := { program := "ytlallleahgfdkaagreatdoor", sum := "9d6a5f9452e1bc0593b86d43a789e6a119f273d895062f20bf1d965eaa6d2881", func := "pub-regostrings/laws.FnTrimEnds", spec := "fnTrimEnds", inPlace := ["internal/abi.NoEscape", "internal/bytealg.MakeNoZero"], unfollowed := true, recurses := true, named := ["internal/strconv.uint64pow10", "math/bits.deBruijn32tab", "math/bits.deBruijn64tab", "unicode/utf8.first", "unicode/utf8.acceptRanges", "unicode.CaseRanges"], apart := false, laid := [("math/bits.deBruijn32tab", laid_math_bits_deBruijn32tab), ("math/bits.deBruijn64tab", laid_math_bits_deBruijn64tab), ("internal/strconv.uint64pow10", laid_internal_strconv_uint64pow10), ("unicode/utf8.acceptRanges", laid_unicode_utf8_acceptRanges), ("unicode.CaseRanges", laid_unicode_CaseRanges), ("unicode/utf8.first", laid_unicode_utf8_first)] }
def FnTrimEndsSaid : Prop := fnTrimEndsRow.holds Tryz.pinned (OpenSpec.ofChange fnTrimEndsSpec)

/-- ITS FALSE NEIGHBOUR: 'it returns false'. Refute it at one input. -/
def fnTrimEndsWrong : ChangeSpec := { name := "fnTrimEnds", fn := fun _ => fun
  | [d1, d2] => { results := [.lit (.bool false)], args := [d1, d2] }
  | _ => none }
def FnTrimEndsWrongFalsely : Prop := fnTrimEndsRow.holds Tryz.pinned (OpenSpec.ofChange fnTrimEndsWrong)

/-- 'laws.FnReverse': WHATEVER THE INPUT: true; the input reads as it did. -/
def fnReverseSpec : ChangeSpec := { name := "fnReverse", fn := fun _ => fun
  | [d] => { results := [.lit (.bool true)], args := [d] }
  | _ => none }
def fnReverseRow : OpenClaim := { program := "ytlallleahgfdkaagreatdoor", sum := "9d6a5f9452e1bc0593b86d43a789e6a119f273d895062f20bf1d965eaa6d2881", func := "pub-regostrings/laws.FnReverse", spec := "fnReverse", inPlace := ["internal/abi.NoEscape", "internal/bytealg.MakeNoZero"], unfollowed := true, recurses := true, named := ["unicode/utf8.first", "unicode/utf8.acceptRanges", "unicode.CaseRanges", "internal/strconv.uint64pow10", "math/bits.deBruijn32tab", "math/bits.deBruijn64tab"], apart := false, laid := [("math/bits.deBruijn32tab", laid_math_bits_deBruijn32tab), ("math/bits.deBruijn64tab", laid_math_bits_deBruijn64tab), ("internal/strconv.uint64pow10", laid_internal_strconv_uint64pow10), ("unicode/utf8.acceptRanges", laid_unicode_utf8_acceptRanges), ("unicode.CaseRanges", laid_unicode_CaseRanges), ("unicode/utf8.first", laid_unicode_utf8_first)] }
def FnReverseSaid : Prop := fnReverseRow.holds Tryz.pinned (OpenSpec.ofChange fnReverseSpec)

/-- ITS FALSE NEIGHBOUR: 'it returns false'. Refute it at one input. -/
def fnReverseWrong : ChangeSpec := { name := "fnReverse", fn := fun _ => fun
  | [d] => { results := [.lit (.bool false)], args := [d] }
  | _ => none }
def FnReverseWrongFalsely : Prop := fnReverseRow.holds Tryz.pinned (OpenSpec.ofChange fnReverseWrong)

/-- 'laws.FnTrim': WHATEVER THE INPUT: true; the input reads as it did. -/
def fnTrimSpec : ChangeSpec := { name := "fnTrim", fn := fun _ => fun
  | [d1, d2] => { results := [.lit (.bool true)], args := [d1, d2] }
  | _ => none }
def fnTrimRow : OpenClaim := { program := "ytlallleahgfdkaagreatdoor", sum := "9d6a5f9452e1bc0593b86d43a789e6a119f273d895062f20bf1d965eaa6d2881", func := "pub-regostrings/laws.FnTrim", spec := "fnTrim", inPlace := ["internal/abi.NoEscape", "internal/bytealg.MakeNoZero"], unfollowed := true, recurses := true, named := ["unicode/utf8.first", "unicode/utf8.acceptRanges", "unicode.CaseRanges", "internal/strconv.uint64pow10", "math/bits.deBruijn32tab", "math/bits.deBruijn64tab"], apart := false, laid := [("math/bits.deBruijn32tab", laid_math_bits_deBruijn32tab), ("math/bits.deBruijn64tab", laid_math_bits_deBruijn64tab), ("internal/strconv.uint64pow10", laid_internal_strconv_uint64pow10), ("unicode/utf8.acceptRanges", laid_unicode_utf8_acceptRanges), ("unicode.CaseRanges", laid_unicode_CaseRanges), ("unicode/utf8.first", laid_unicode_utf8_first)] }
def FnTrimSaid : Prop := fnTrimRow.holds Tryz.pinned (OpenSpec.ofChange fnTrimSpec)

/-- ITS FALSE NEIGHBOUR: 'it returns false'. Refute it at one input. -/
def fnTrimWrong : ChangeSpec := { name := "fnTrim", fn := fun _ => fun
  | [d1, d2] => { results := [.lit (.bool false)], args := [d1, d2] }
  | _ => none }
def FnTrimWrongFalsely : Prop := fnTrimRow.holds Tryz.pinned (OpenSpec.ofChange fnTrimWrong)

/-- 'laws.FnTrimmedTwice': WHATEVER THE INPUT: true; the input reads as it did. -/
def fnTrimmedTwiceSpec : ChangeSpec := { name := "fnTrimmedTwice", fn := fun _ => fun
  | [d1, d2] => { results := [.lit (.bool true)], args := [d1, d2] }
  | _ => none }
def fnTrimmedTwiceRow : OpenClaim := { program := "ytlallleahgfdkaagreatdoor", sum := "9d6a5f9452e1bc0593b86d43a789e6a119f273d895062f20bf1d965eaa6d2881", func := "pub-regostrings/laws.FnTrimmedTwice", spec := "fnTrimmedTwice", inPlace := ["internal/abi.NoEscape", "internal/bytealg.MakeNoZero"], unfollowed := true, recurses := true, named := ["internal/strconv.uint64pow10", "math/bits.deBruijn32tab", "math/bits.deBruijn64tab", "unicode/utf8.first", "unicode/utf8.acceptRanges", "unicode.CaseRanges"], apart := false, laid := [("math/bits.deBruijn32tab", laid_math_bits_deBruijn32tab), ("math/bits.deBruijn64tab", laid_math_bits_deBruijn64tab), ("internal/strconv.uint64pow10", laid_internal_strconv_uint64pow10), ("unicode/utf8.acceptRanges", laid_unicode_utf8_acceptRanges), ("unicode.CaseRanges", laid_unicode_CaseRanges), ("unicode/utf8.first", laid_unicode_utf8_first)] }
def FnTrimmedTwiceSaid : Prop := fnTrimmedTwiceRow.holds Tryz.pinned (OpenSpec.ofChange fnTrimmedTwiceSpec)

/-- ITS FALSE NEIGHBOUR: 'it returns false'. Refute it at one input. -/
def fnTrimmedTwiceWrong : ChangeSpec := { name := "fnTrimmedTwice", fn := fun _ => fun
  | [d1, d2] => { results := [.lit (.bool false)], args := [d1, d2] }
  | _ => none }
def FnTrimmedTwiceWrongFalsely : Prop := fnTrimmedTwiceRow.holds Tryz.pinned (OpenSpec.ofChange fnTrimmedTwiceWrong)

/-- 'laws.FnCount': WHATEVER THE INPUT: true; the input reads as it did. -/
def fnCountSpec : ChangeSpec := { name := "fnCount", fn := fun _ => fun
  | [d1, d2] => { results := [.lit (.bool true)], args := [d1, d2] }
  | _ => none }
def fnCountRow : OpenClaim := { program := "ytlallleahgfdkaagreatdoor", sum := "9d6a5f9452e1bc0593b86d43a789e6a119f273d895062f20bf1d965eaa6d2881", func := "pub-regostrings/laws.FnCount", spec := "fnCount", inPlace := ["internal/abi.NoEscape", "internal/bytealg.MakeNoZero"], unfollowed := true, recurses := true, named := ["unicode/utf8.first", "unicode/utf8.acceptRanges", "unicode.CaseRanges", "internal/strconv.uint64pow10", "math/bits.deBruijn32tab", "math/bits.deBruijn64tab"], apart := false, laid := [("math/bits.deBruijn32tab", laid_math_bits_deBruijn32tab), ("math/bits.deBruijn64tab", laid_math_bits_deBruijn64tab), ("internal/strconv.uint64pow10", laid_internal_strconv_uint64pow10), ("unicode/utf8.acceptRanges", laid_unicode_utf8_acceptRanges), ("unicode.CaseRanges", laid_unicode_CaseRanges), ("unicode/utf8.first", laid_unicode_utf8_first)] }
def FnCountSaid : Prop := fnCountRow.holds Tryz.pinned (OpenSpec.ofChange fnCountSpec)

/-- ITS FALSE NEIGHBOUR: 'it returns false'. Refute it at one input. -/
def fnCountWrong : ChangeSpec := { name := "fnCount", fn := fun _ => fun
  | [d1, d2] => { results := [.lit (.bool false)], args := [d1, d2] }
  | _ => none }
def FnCountWrongFalsely : Prop := fnCountRow.holds Tryz.pinned (OpenSpec.ofChange fnCountWrong)

/-- 'laws.FnReversed': WHATEVER THE INPUT: true; the input reads as it did. -/
def fnReversedSpec : ChangeSpec := { name := "fnReversed", fn := fun _ => fun
  | [d1, d2] => { results := [.lit (.bool true)], args := [d1, d2] }
  | _ => none }
def fnReversedRow : OpenClaim := { program := "ytlallleahgfdkaagreatdoor", sum := "9d6a5f9452e1bc0593b86d43a789e6a119f273d895062f20bf1d965eaa6d2881", func := "pub-regostrings/laws.FnReversed", spec := "fnReversed", inPlace := ["internal/abi.NoEscape", "internal/bytealg.MakeNoZero"], unfollowed := true, recurses := true, named := ["unicode/utf8.first", "unicode/utf8.acceptRanges", "unicode.CaseRanges", "internal/strconv.uint64pow10", "math/bits.deBruijn32tab", "math/bits.deBruijn64tab"], apart := false, laid := [("math/bits.deBruijn32tab", laid_math_bits_deBruijn32tab), ("math/bits.deBruijn64tab", laid_math_bits_deBruijn64tab), ("internal/strconv.uint64pow10", laid_internal_strconv_uint64pow10), ("unicode/utf8.acceptRanges", laid_unicode_utf8_acceptRanges), ("unicode.CaseRanges", laid_unicode_CaseRanges), ("unicode/utf8.first", laid_unicode_utf8_first)] }
def FnReversedSaid : Prop := fnReversedRow.holds Tryz.pinned (OpenSpec.ofChange fnReversedSpec)

/-- ITS FALSE NEIGHBOUR: 'it returns false'. Refute it at one input. -/
def fnReversedWrong : ChangeSpec := { name := "fnReversed", fn := fun _ => fun
  | [d1, d2] => { results := [.lit (.bool false)], args := [d1, d2] }
  | _ => none }
def FnReversedWrongFalsely : Prop := fnReversedRow.holds Tryz.pinned (OpenSpec.ofChange fnReversedWrong)

/-- 'laws.FnInParts': WHATEVER THE INPUT: true; the input reads as it did. -/
def fnInPartsSpec : ChangeSpec := { name := "fnInParts", fn := fun _ => fun
  | [d1, d2] => { results := [.lit (.bool true)], args := [d1, d2] }
  | _ => none }
def fnInPartsRow : OpenClaim := { program := "ytlallleahgfdkaagreatdoor", sum := "9d6a5f9452e1bc0593b86d43a789e6a119f273d895062f20bf1d965eaa6d2881", func := "pub-regostrings/laws.FnInParts", spec := "fnInParts", inPlace := ["internal/abi.NoEscape", "internal/bytealg.MakeNoZero"], unfollowed := true, recurses := true, named := ["unicode/utf8.first", "unicode/utf8.acceptRanges", "unicode.CaseRanges", "internal/strconv.uint64pow10", "math/bits.deBruijn32tab", "math/bits.deBruijn64tab"], apart := false, laid := [("math/bits.deBruijn32tab", laid_math_bits_deBruijn32tab), ("math/bits.deBruijn64tab", laid_math_bits_deBruijn64tab), ("internal/strconv.uint64pow10", laid_internal_strconv_uint64pow10), ("unicode/utf8.acceptRanges", laid_unicode_utf8_acceptRanges), ("unicode.CaseRanges", laid_unicode_CaseRanges), ("unicode/utf8.first", laid_unicode_utf8_first)] }
def FnInPartsSaid : Prop := fnInPartsRow.holds Tryz.pinned (OpenSpec.ofChange fnInPartsSpec)

/-- ITS FALSE NEIGHBOUR: 'it returns false'. Refute it at one input. -/
def fnInPartsWrong : ChangeSpec := { name := "fnInParts", fn := fun _ => fun
  | [d1, d2] => { results := [.lit (.bool false)], args := [d1, d2] }
  | _ => none }
def FnInPartsWrongFalsely : Prop := fnInPartsRow.holds Tryz.pinned (OpenSpec.ofChange fnInPartsWrong)

/-- 'laws.FnSubstring': WHATEVER THE INPUT: true; the input reads as it did. -/
def fnSubstringSpec : ChangeSpec := { name := "fnSubstring", fn := fun _ => fun
  | [d1, d2, d3] => { results := [.lit (.bool true)], args := [d1, d2, d3] }
  | _ => none }
def fnSubstringRow : OpenClaim := { program := "ytlallleahgfdkaagreatdoor", sum := "9d6a5f9452e1bc0593b86d43a789e6a119f273d895062f20bf1d965eaa6d2881", func := "pub-regostrings/laws.FnSubstring", spec := "fnSubstring", inPlace := ["internal/abi.NoEscape", "internal/bytealg.MakeNoZero"], unfollowed := true, recurses := true, named := ["unicode/utf8.first", "unicode/utf8.acceptRanges", "unicode.CaseRanges", "internal/strconv.uint64pow10", "math/bits.deBruijn32tab", "math/bits.deBruijn64tab"], apart := false, laid := [("math/bits.deBruijn32tab", laid_math_bits_deBruijn32tab), ("math/bits.deBruijn64tab", laid_math_bits_deBruijn64tab), ("internal/strconv.uint64pow10", laid_internal_strconv_uint64pow10), ("unicode/utf8.acceptRanges", laid_unicode_utf8_acceptRanges), ("unicode.CaseRanges", laid_unicode_CaseRanges), ("unicode/utf8.first", laid_unicode_utf8_first)] }
def FnSubstringSaid : Prop := fnSubstringRow.holds Tryz.pinned (OpenSpec.ofChange fnSubstringSpec)

/-- ITS FALSE NEIGHBOUR: 'it returns false'. Refute it at one input. -/
def fnSubstringWrong : ChangeSpec := { name := "fnSubstring", fn := fun _ => fun
  | [d1, d2, d3] => { results := [.lit (.bool false)], args := [d1, d2, d3] }
  | _ => none }
def FnSubstringWrongFalsely : Prop := fnSubstringRow.holds Tryz.pinned (OpenSpec.ofChange fnSubstringWrong)

/-- 'laws.FnDecodedBack': WHATEVER THE INPUT: true; the input reads as it did. -/
def fnDecodedBackSpec : ChangeSpec := { name := "fnDecodedBack", fn := fun _ => fun
  | [d] => { results := [.lit (.bool true)], args := [d] }
  | _ => none }
def fnDecodedBackRow : OpenClaim := { program := "ytlallleahgfdkaagreatdoor", sum := "9d6a5f9452e1bc0593b86d43a789e6a119f273d895062f20bf1d965eaa6d2881", func := "pub-regostrings/laws.FnDecodedBack", spec := "fnDecodedBack", inPlace := ["internal/abi.NoEscape", "internal/bytealg.MakeNoZero"], unfollowed := true, recurses := true, named := ["internal/strconv.uint64pow10", "math/bits.deBruijn32tab", "math/bits.deBruijn64tab", "encoding/hex.ErrLength"], apart := false, laid := [("math/bits.deBruijn32tab", laid_math_bits_deBruijn32tab), ("math/bits.deBruijn64tab", laid_math_bits_deBruijn64tab), ("internal/strconv.uint64pow10", laid_internal_strconv_uint64pow10), ("encoding/hex.ErrLength", laid_encoding_hex_ErrLength)] }
def FnDecodedBackSaid : Prop := fnDecodedBackRow.holds Tryz.pinned (OpenSpec.ofChange fnDecodedBackSpec)

/-- ITS FALSE NEIGHBOUR: 'it returns false'. Refute it at one input. -/
def fnDecodedBackWrong : ChangeSpec := { name := "fnDecodedBack", fn := fun _ => fun
  | [d] => { results := [.lit (.bool false)], args := [d] }
  | _ => none }
def FnDecodedBackWrongFalsely : Prop := fnDecodedBackRow.holds Tryz.pinned (OpenSpec.ofChange fnDecodedBackWrong)

/- THE SECOND FORM. 'bulk': how many values and letters a reading holds, each counted each time it is reached (what is shared counts as often as it is met; a slice's spare places count too). A statement '..UptoSaid' is the law's where the arguments, and the package variables that the reading takes, are together of bulk at most 1048576: NARROWER than '..Said'. Prove '..Said' where nothing that the law and all that it calls make is longer than what came in: it says more and counts as full. Else prove '..UptoSaid'. A law counts once. -/
mutual
def uptoBulk {H : Type} : DataW H → Nat
  | .lit (.string bytes) => bytes.length + 1
  | .lit _ => 1
  | .nil => 1
  | .ptr d => uptoBulk d + 1
  | .slice elems spare => uptoBulkAll elems + uptoBulkAll spare + 1
  | .agg parts => uptoBulkAll parts + 1
  | .iface _ d => uptoBulk d + 1
  | .map entries => uptoBulkEntries entries + 1
  | .held _ => 1
def uptoBulkAll {H : Type} : List (DataW H) → Nat
  | [] => 0
  | d :: r => uptoBulk d + uptoBulkAll r
def uptoBulkEntries {H : Type} : List (Lit × DataW H) → Nat
  | [] => 0
  | x :: r => uptoBulkEntry x + uptoBulkEntries r
def uptoBulkEntry {H : Type} : Lit × DataW H → Nat
  | (.string bytes, d) => bytes.length + uptoBulk d + 1
  | (_, d) => uptoBulk d + 1
 end
def uptoSmall : (H : Type) → List (DataW H) → Bool := fun _ ds => decide (uptoBulkAll ds ≤ 1048576)
def OpenSpec.upto (s : _root_.Go.ChangeSpec) : _root_.Go.OpenSpec := { _root_.Go.OpenSpec.ofChange s with cond := some uptoSmall }

/-- 'laws.FnContains', WHERE WHAT IT READS IS OF BULK AT MOST 1048576: true; the input reads as it did. -/
def fnContainsUptoRow : OpenClaim := { program := "ytlallleahgfdkaagreatdoor", sum := "9d6a5f9452e1bc0593b86d43a789e6a119f273d895062f20bf1d965eaa6d2881", func := "pub-regostrings/laws.FnContains", spec := "fnContains", inPlace := ["internal/abi.NoEscape", "internal/bytealg.MakeNoZero"], unfollowed := true, recurses := true, named := ["internal/strconv.uint64pow10", "math/bits.deBruijn32tab", "math/bits.deBruijn64tab"], apart := false, laid := [("math/bits.deBruijn32tab", laid_math_bits_deBruijn32tab), ("math/bits.deBruijn64tab", laid_math_bits_deBruijn64tab), ("internal/strconv.uint64pow10", laid_internal_strconv_uint64pow10)], narrowed := true }
def FnContainsUptoSaid : Prop := fnContainsUptoRow.holds Tryz.pinned (OpenSpec.upto fnContainsSpec)

/-- 'laws.FnTrimmedPut', WHERE WHAT IT READS IS OF BULK AT MOST 1048576: true; the input reads as it did. -/
def fnTrimmedPutUptoRow : OpenClaim := { program := "ytlallleahgfdkaagreatdoor", sum := "9d6a5f9452e1bc0593b86d43a789e6a119f273d895062f20bf1d965eaa6d2881", func := "pub-regostrings/laws.FnTrimmedPut", spec := "fnTrimmedPut", inPlace := ["internal/abi.NoEscape", "internal/bytealg.MakeNoZero"], unfollowed := true, recurses := true, named := ["internal/strconv.uint64pow10", "math/bits.deBruijn32tab", "math/bits.deBruijn64tab"], apart := false, laid := [("math/bits.deBruijn32tab", laid_math_bits_deBruijn32tab), ("math/bits.deBruijn64tab", laid_math_bits_deBruijn64tab), ("internal/strconv.uint64pow10", laid_internal_strconv_uint64pow10)], narrowed := true }
def FnTrimmedPutUptoSaid : Prop := fnTrimmedPutUptoRow.holds Tryz.pinned (OpenSpec.upto fnTrimmedPutSpec)

/-- 'laws.FnDecodeHex', WHERE WHAT IT READS IS OF BULK AT MOST 1048576: true; the input reads as it did. -/
def fnDecodeHexUptoRow : OpenClaim := { program := "ytlallleahgfdkaagreatdoor", sum := "9d6a5f9452e1bc0593b86d43a789e6a119f273d895062f20bf1d965eaa6d2881", func := "pub-regostrings/laws.FnDecodeHex", spec := "fnDecodeHex", inPlace := ["internal/abi.NoEscape", "internal/bytealg.MakeNoZero"], unfollowed := true, recurses := true, named := ["unicode/utf8.first", "unicode/utf8.acceptRanges", "unicode.CaseRanges", "internal/strconv.uint64pow10", "math/bits.deBruijn32tab", "math/bits.deBruijn64tab", "encoding/hex.ErrLength"], apart := false, laid := [("math/bits.deBruijn32tab", laid_math_bits_deBruijn32tab), ("math/bits.deBruijn64tab", laid_math_bits_deBruijn64tab), ("internal/strconv.uint64pow10", laid_internal_strconv_uint64pow10), ("unicode/utf8.acceptRanges", laid_unicode_utf8_acceptRanges), ("encoding/hex.ErrLength", laid_encoding_hex_ErrLength), ("unicode.CaseRanges", laid_unicode_CaseRanges), ("unicode/utf8.first", laid_unicode_utf8_first)], narrowed := true }
def FnDecodeHexUptoSaid : Prop := fnDecodeHexUptoRow.holds Tryz.pinned (OpenSpec.upto fnDecodeHexSpec)

/-- 'laws.FnLetters', WHERE WHAT IT READS IS OF BULK AT MOST 1048576: true; the input reads as it did. -/
def fnLettersUptoRow : OpenClaim := { program := "ytlallleahgfdkaagreatdoor", sum := "9d6a5f9452e1bc0593b86d43a789e6a119f273d895062f20bf1d965eaa6d2881", func := "pub-regostrings/laws.FnLetters", spec := "fnLetters", inPlace := ["internal/abi.NoEscape", "internal/bytealg.MakeNoZero"], unfollowed := true, recurses := true, named := ["unicode/utf8.first", "unicode/utf8.acceptRanges", "unicode.CaseRanges", "internal/strconv.uint64pow10", "math/bits.deBruijn32tab", "math/bits.deBruijn64tab"], apart := false, laid := [("math/bits.deBruijn32tab", laid_math_bits_deBruijn32tab), ("math/bits.deBruijn64tab", laid_math_bits_deBruijn64tab), ("internal/strconv.uint64pow10", laid_internal_strconv_uint64pow10), ("unicode/utf8.acceptRanges", laid_unicode_utf8_acceptRanges), ("unicode.CaseRanges", laid_unicode_CaseRanges), ("unicode/utf8.first", laid_unicode_utf8_first)], narrowed := true }
def FnLettersUptoSaid : Prop := fnLettersUptoRow.holds Tryz.pinned (OpenSpec.upto fnLettersSpec)

/-- 'laws.FnLettersAgree', WHERE WHAT IT READS IS OF BULK AT MOST 1048576: true; the input reads as it did. -/
def fnLettersAgreeUptoRow : OpenClaim := { program := "ytlallleahgfdkaagreatdoor", sum := "9d6a5f9452e1bc0593b86d43a789e6a119f273d895062f20bf1d965eaa6d2881", func := "pub-regostrings/laws.FnLettersAgree", spec := "fnLettersAgree", inPlace := ["internal/abi.NoEscape", "internal/bytealg.MakeNoZero"], unfollowed := true, recurses := true, named := ["unicode/utf8.first", "unicode/utf8.acceptRanges", "unicode.CaseRanges", "internal/strconv.uint64pow10", "math/bits.deBruijn32tab", "math/bits.deBruijn64tab"], apart := false, laid := [("math/bits.deBruijn32tab", laid_math_bits_deBruijn32tab), ("math/bits.deBruijn64tab", laid_math_bits_deBruijn64tab), ("internal/strconv.uint64pow10", laid_internal_strconv_uint64pow10), ("unicode/utf8.acceptRanges", laid_unicode_utf8_acceptRanges), ("unicode.CaseRanges", laid_unicode_CaseRanges), ("unicode/utf8.first", laid_unicode_utf8_first)], narrowed := true }
def FnLettersAgreeUptoSaid : Prop := fnLettersAgreeUptoRow.holds Tryz.pinned (OpenSpec.upto fnLettersAgreeSpec)

/-- 'laws.FnTrimEnds', WHERE WHAT IT READS IS OF BULK AT MOST 1048576: true; the input reads as it did. -/
def fnTrimEndsUptoRow : OpenClaim := { program := "ytlallleahgfdkaagreatdoor", sum := "9d6a5f9452e1bc0593b86d43a789e6a119f273d895062f20bf1d965eaa6d2881", func := "pub-regostrings/laws.FnTrimEnds", spec := "fnTrimEnds", inPlace := ["internal/abi.NoEscape", "internal/bytealg.MakeNoZero"], unfollowed := true, recurses := true, named := ["internal/strconv.uint64pow10", "math/bits.deBruijn32tab", "math/bits.deBruijn64tab", "unicode/utf8.first", "unicode/utf8.acceptRanges", "unicode.CaseRanges"], apart := false, laid := [("math/bits.deBruijn32tab", laid_math_bits_deBruijn32tab), ("math/bits.deBruijn64tab", laid_math_bits_deBruijn64tab), ("internal/strconv.uint64pow10", laid_internal_strconv_uint64pow10), ("unicode/utf8.acceptRanges", laid_unicode_utf8_acceptRanges), ("unicode.CaseRanges", laid_unicode_CaseRanges), ("unicode/utf8.first", laid_unicode_utf8_first)], narrowed := true }
def FnTrimEndsUptoSaid : Prop := fnTrimEndsUptoRow.holds Tryz.pinned (OpenSpec.upto fnTrimEndsSpec)

/-- 'laws.FnReverse', WHERE WHAT IT READS IS OF BULK AT MOST 1048576: true; the input reads as it did. -/
def fnReverseUptoRow : OpenClaim := { program := "ytlallleahgfdkaagreatdoor", sum := "9d6a5f9452e1bc0593b86d43a789e6a119f273d895062f20bf1d965eaa6d2881", func := "pub-regostrings/laws.FnReverse", spec := "fnReverse", inPlace := ["internal/abi.NoEscape", "internal/bytealg.MakeNoZero"], unfollowed := true, recurses := true, named := ["unicode/utf8.first", "unicode/utf8.acceptRanges", "unicode.CaseRanges", "internal/strconv.uint64pow10", "math/bits.deBruijn32tab", "math/bits.deBruijn64tab"], apart := false, laid := [("math/bits.deBruijn32tab", laid_math_bits_deBruijn32tab), ("math/bits.deBruijn64tab", laid_math_bits_deBruijn64tab), ("internal/strconv.uint64pow10", laid_internal_strconv_uint64pow10), ("unicode/utf8.acceptRanges", laid_unicode_utf8_acceptRanges), ("unicode.CaseRanges", laid_unicode_CaseRanges), ("unicode/utf8.first", laid_unicode_utf8_first)], narrowed := true }
def FnReverseUptoSaid : Prop := fnReverseUptoRow.holds Tryz.pinned (OpenSpec.upto fnReverseSpec)

/-- 'laws.FnTrim', WHERE WHAT IT READS IS OF BULK AT MOST 1048576: true; the input reads as it did. -/
def fnTrimUptoRow : OpenClaim := { program := "ytlallleahgfdkaagreatdoor", sum := "9d6a5f9452e1bc0593b86d43a789e6a119f273d895062f20bf1d965eaa6d2881", func := "pub-regostrings/laws.FnTrim", spec := "fnTrim", inPlace := ["internal/abi.NoEscape", "internal/bytealg.MakeNoZero"], unfollowed := true, recurses := true, named := ["unicode/utf8.first", "unicode/utf8.acceptRanges", "unicode.CaseRanges", "internal/strconv.uint64pow10", "math/bits.deBruijn32tab", "math/bits.deBruijn64tab"], apart := false, laid := [("math/bits.deBruijn32tab", laid_math_bits_deBruijn32tab), ("math/bits.deBruijn64tab", laid_math_bits_deBruijn64tab), ("internal/strconv.uint64pow10", laid_internal_strconv_uint64pow10), ("unicode/utf8.acceptRanges", laid_unicode_utf8_acceptRanges), ("unicode.CaseRanges", laid_unicode_CaseRanges), ("unicode/utf8.first", laid_unicode_utf8_first)], narrowed := true }
def FnTrimUptoSaid : Prop := fnTrimUptoRow.holds Tryz.pinned (OpenSpec.upto fnTrimSpec)

/-- 'laws.FnTrimmedTwice', WHERE WHAT IT READS IS OF BULK AT MOST 1048576: true; the input reads as it did. -/
def fnTrimmedTwiceUptoRow : OpenClaim := { program := "ytlallleahgfdkaagreatdoor", sum := "9d6a5f9452e1bc0593b86d43a789e6a119f273d895062f20bf1d965eaa6d2881", func := "pub-regostrings/laws.FnTrimmedTwice", spec := "fnTrimmedTwice", inPlace := ["internal/abi.NoEscape", "internal/bytealg.MakeNoZero"], unfollowed := true, recurses := true, named := ["internal/strconv.uint64pow10", "math/bits.deBruijn32tab", "math/bits.deBruijn64tab", "unicode/utf8.first", "unicode/utf8.acceptRanges", "unicode.CaseRanges"], apart := false, laid := [("math/bits.deBruijn32tab", laid_math_bits_deBruijn32tab), ("math/bits.deBruijn64tab", laid_math_bits_deBruijn64tab), ("internal/strconv.uint64pow10", laid_internal_strconv_uint64pow10), ("unicode/utf8.acceptRanges", laid_unicode_utf8_acceptRanges), ("unicode.CaseRanges", laid_unicode_CaseRanges), ("unicode/utf8.first", laid_unicode_utf8_first)], narrowed := true }
def FnTrimmedTwiceUptoSaid : Prop := fnTrimmedTwiceUptoRow.holds Tryz.pinned (OpenSpec.upto fnTrimmedTwiceSpec)

/-- 'laws.FnCount', WHERE WHAT IT READS IS OF BULK AT MOST 1048576: true; the input reads as it did. -/
def fnCountUptoRow : OpenClaim := { program := "ytlallleahgfdkaagreatdoor", sum := "9d6a5f9452e1bc0593b86d43a789e6a119f273d895062f20bf1d965eaa6d2881", func := "pub-regostrings/laws.FnCount", spec := "fnCount", inPlace := ["internal/abi.NoEscape", "internal/bytealg.MakeNoZero"], unfollowed := true, recurses := true, named := ["unicode/utf8.first", "unicode/utf8.acceptRanges", "unicode.CaseRanges", "internal/strconv.uint64pow10", "math/bits.deBruijn32tab", "math/bits.deBruijn64tab"], apart := false, laid := [("math/bits.deBruijn32tab", laid_math_bits_deBruijn32tab), ("math/bits.deBruijn64tab", laid_math_bits_deBruijn64tab), ("internal/strconv.uint64pow10", laid_internal_strconv_uint64pow10), ("unicode/utf8.acceptRanges", laid_unicode_utf8_acceptRanges), ("unicode.CaseRanges", laid_unicode_CaseRanges), ("unicode/utf8.first", laid_unicode_utf8_first)], narrowed := true }
def FnCountUptoSaid : Prop := fnCountUptoRow.holds Tryz.pinned (OpenSpec.upto fnCountSpec)

/-- 'laws.FnReversed', WHERE WHAT IT READS IS OF BULK AT MOST 1048576: true; the input reads as it did. -/
def fnReversedUptoRow : OpenClaim := { program := "ytlallleahgfdkaagreatdoor", sum := "9d6a5f9452e1bc0593b86d43a789e6a119f273d895062f20bf1d965eaa6d2881", func := "pub-regostrings/laws.FnReversed", spec := "fnReversed", inPlace := ["internal/abi.NoEscape", "internal/bytealg.MakeNoZero"], unfollowed := true, recurses := true, named := ["unicode/utf8.first", "unicode/utf8.acceptRanges", "unicode.CaseRanges", "internal/strconv.uint64pow10", "math/bits.deBruijn32tab", "math/bits.deBruijn64tab"], apart := false, laid := [("math/bits.deBruijn32tab", laid_math_bits_deBruijn32tab), ("math/bits.deBruijn64tab", laid_math_bits_deBruijn64tab), ("internal/strconv.uint64pow10", laid_internal_strconv_uint64pow10), ("unicode/utf8.acceptRanges", laid_unicode_utf8_acceptRanges), ("unicode.CaseRanges", laid_unicode_CaseRanges), ("unicode/utf8.first", laid_unicode_utf8_first)], narrowed := true }
def FnReversedUptoSaid : Prop := fnReversedUptoRow.holds Tryz.pinned (OpenSpec.upto fnReversedSpec)

/-- 'laws.FnInParts', WHERE WHAT IT READS IS OF BULK AT MOST 1048576: true; the input reads as it did. -/
def fnInPartsUptoRow : OpenClaim := { program := "ytlallleahgfdkaagreatdoor", sum := "9d6a5f9452e1bc0593b86d43a789e6a119f273d895062f20bf1d965eaa6d2881", func := "pub-regostrings/laws.FnInParts", spec := "fnInParts", inPlace := ["internal/abi.NoEscape", "internal/bytealg.MakeNoZero"], unfollowed := true, recurses := true, named := ["unicode/utf8.first", "unicode/utf8.acceptRanges", "unicode.CaseRanges", "internal/strconv.uint64pow10", "math/bits.deBruijn32tab", "math/bits.deBruijn64tab"], apart := false, laid := [("math/bits.deBruijn32tab", laid_math_bits_deBruijn32tab), ("math/bits.deBruijn64tab", laid_math_bits_deBruijn64tab), ("internal/strconv.uint64pow10", laid_internal_strconv_uint64pow10), ("unicode/utf8.acceptRanges", laid_unicode_utf8_acceptRanges), ("unicode.CaseRanges", laid_unicode_CaseRanges), ("unicode/utf8.first", laid_unicode_utf8_first)], narrowed := true }
def FnInPartsUptoSaid : Prop := fnInPartsUptoRow.holds Tryz.pinned (OpenSpec.upto fnInPartsSpec)

/-- 'laws.FnSubstring', WHERE WHAT IT READS IS OF BULK AT MOST 1048576: true; the input reads as it did. -/
def fnSubstringUptoRow : OpenClaim := { program := "ytlallleahgfdkaagreatdoor", sum := "9d6a5f9452e1bc0593b86d43a789e6a119f273d895062f20bf1d965eaa6d2881", func := "pub-regostrings/laws.FnSubstring", spec := "fnSubstring", inPlace := ["internal/abi.NoEscape", "internal/bytealg.MakeNoZero"], unfollowed := true, recurses := true, named := ["unicode/utf8.first", "unicode/utf8.acceptRanges", "unicode.CaseRanges", "internal/strconv.uint64pow10", "math/bits.deBruijn32tab", "math/bits.deBruijn64tab"], apart := false, laid := [("math/bits.deBruijn32tab", laid_math_bits_deBruijn32tab), ("math/bits.deBruijn64tab", laid_math_bits_deBruijn64tab), ("internal/strconv.uint64pow10", laid_internal_strconv_uint64pow10), ("unicode/utf8.acceptRanges", laid_unicode_utf8_acceptRanges), ("unicode.CaseRanges", laid_unicode_CaseRanges), ("unicode/utf8.first", laid_unicode_utf8_first)], narrowed := true }
def FnSubstringUptoSaid : Prop := fnSubstringUptoRow.holds Tryz.pinned (OpenSpec.upto fnSubstringSpec)

/-- 'laws.FnDecodedBack', WHERE WHAT IT READS IS OF BULK AT MOST 1048576: true; the input reads as it did. -/
def fnDecodedBackUptoRow : OpenClaim := { program := "ytlallleahgfdkaagreatdoor", sum := "9d6a5f9452e1bc0593b86d43a789e6a119f273d895062f20bf1d965eaa6d2881", func := "pub-regostrings/laws.FnDecodedBack", spec := "fnDecodedBack", inPlace := ["internal/abi.NoEscape", "internal/bytealg.MakeNoZero"], unfollowed := true, recurses := true, named := ["internal/strconv.uint64pow10", "math/bits.deBruijn32tab", "math/bits.deBruijn64tab", "encoding/hex.ErrLength"], apart := false, laid := [("math/bits.deBruijn32tab", laid_math_bits_deBruijn32tab), ("math/bits.deBruijn64tab", laid_math_bits_deBruijn64tab), ("internal/strconv.uint64pow10", laid_internal_strconv_uint64pow10), ("encoding/hex.ErrLength", laid_encoding_hex_ErrLength)], narrowed := true }
def FnDecodedBackUptoSaid : Prop := fnDecodedBackUptoRow.holds Tryz.pinned (OpenSpec.upto fnDecodedBackSpec)

end Rows
end Go.Proofs.YtlallleahgfdkaaGreatDoor
