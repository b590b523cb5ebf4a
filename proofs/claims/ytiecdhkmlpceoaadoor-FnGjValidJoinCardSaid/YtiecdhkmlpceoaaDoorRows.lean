/-
  NARROWER THAN 'FOR EVERY INPUT', by the rows' own cells (each row's printed sentence says how): FnJpBlockEnd: laid · FnMtJoin: laid · FnMtMatch: laid · FnGjValidJoin: laid · FnFfDigits: laid · FnFjCheckWhole: laid.
  DERIVED. THE GIVEN ROWS OF THIS SEAT. 6 by the template 'for every input the law returns true; each argument reads behind the call as it read before'; 0 by the template 'total and deterministic' (their statements: YtiecdhkmlpceoaaDoorTotals.lean).
  GIVEN WITH THE SEED: the statements are not yours to turn. If you find one false, say at which input.
  Laid BY PROGRAM, IN A SANDBOX (cutbox-rows.mjs): the forced cells as the released guide's own fill.sh prints them over the translation 2addbcdfb60022fe… (all of the seat's roots in one cut). By AI agents, Wed Nov 11 2026. No macro, syntax, notation, axiom, sorry.
-/
import Derived.Test.YtiecdhkmlpceoaaDoorChecked
import GoSem.PinnedTables
import GoSem.Claim
import GoSem.ClaimJoined
import GoSem.ClaimMapViews
import Derived.JoinedTies
import Derived.KernelRfl
namespace Go.Proofs.YtiecdhkmlpceoaaDoor
/- THE CELL 'sum', in the pinned program and in every row, IS THE sha256 OF THE DUMP (.gsa) THAT YtiecdhkmlpceoaaDoorProg.lean LOADS. Nothing in Lean hashes anything: it is a label: what it is worth is what the hold of that sum in a sandbox is worth. -/
noncomputable def Tryd.pinned : Pinned := { name := "ytiecdhkmlpceoaadoor", sum := "2addbcdfb60022fe3b5f6c3184687577913064dc1a68136723dcd0ec9ea780e9", checked := Tryd.checked }
namespace Rows
def none {H : Type} : Left H := { results := [], args := [] }

/- WHAT THE LISTED PACKAGE-LEVEL VARIABLES READ AS WHEN THE CALL BEGINS. Each datum BY PROGRAM (the guide's laid-datum.mjs) off the statement by which the dump's own 'gosem.cut.vars' lays the variable. In a bare row this is a premise. The card (YtiecdhkmlpceoaaDoorCards.lean) ties it to the program's text. -/
def laid_pub_tetrapla_pub_jsonparser_DefaultConfig {H : Type} : DataW H := .agg [.lit (.bool false), .lit (.bool false), .lit (.int .i64 0)]
def laid_unicode_utf8_acceptRanges {H : Type} : DataW H := .agg [.agg [.lit (.int .u8 128), .lit (.int .u8 191)], .agg [.lit (.int .u8 160), .lit (.int .u8 191)], .agg [.lit (.int .u8 128), .lit (.int .u8 159)], .agg [.lit (.int .u8 144), .lit (.int .u8 191)], .agg [.lit (.int .u8 128), .lit (.int .u8 143)], .agg [.lit (.int .u8 0), .lit (.int .u8 0)], .agg [.lit (.int .u8 0), .lit (.int .u8 0)], .agg [.lit (.int .u8 0), .lit (.int .u8 0)], .agg [.lit (.int .u8 0), .lit (.int .u8 0)], .agg [.lit (.int .u8 0), .lit (.int .u8 0)], .agg [.lit (.int .u8 0), .lit (.int .u8 0)], .agg [.lit (.int .u8 0), .lit (.int .u8 0)], .agg [.lit (.int .u8 0), .lit (.int .u8 0)], .agg [.lit (.int .u8 0), .lit (.int .u8 0)], .agg [.lit (.int .u8 0), .lit (.int .u8 0)], .agg [.lit (.int .u8 0), .lit (.int .u8 0)]]
/-- One of Go's own tables, pinned by name: the form's constant. -/
def laid_unicode_utf8_first : DataW Unit := Go.Pinned.utf8First
def laid_pub_tetrapla_pub_gjson_hexchars {H : Type} : DataW H := .agg [.lit (.int .u8 48), .lit (.int .u8 49), .lit (.int .u8 50), .lit (.int .u8 51), .lit (.int .u8 52), .lit (.int .u8 53), .lit (.int .u8 54), .lit (.int .u8 55), .lit (.int .u8 56), .lit (.int .u8 57), .lit (.int .u8 97), .lit (.int .u8 98), .lit (.int .u8 99), .lit (.int .u8 100), .lit (.int .u8 101), .lit (.int .u8 102)]
def laid_math_bits_deBruijn32tab {H : Type} : DataW H := .agg [.lit (.int .u8 0), .lit (.int .u8 1), .lit (.int .u8 28), .lit (.int .u8 2), .lit (.int .u8 29), .lit (.int .u8 14), .lit (.int .u8 24), .lit (.int .u8 3), .lit (.int .u8 30), .lit (.int .u8 22), .lit (.int .u8 20), .lit (.int .u8 15), .lit (.int .u8 25), .lit (.int .u8 17), .lit (.int .u8 4), .lit (.int .u8 8), .lit (.int .u8 31), .lit (.int .u8 27), .lit (.int .u8 13), .lit (.int .u8 23), .lit (.int .u8 21), .lit (.int .u8 19), .lit (.int .u8 16), .lit (.int .u8 7), .lit (.int .u8 26), .lit (.int .u8 12), .lit (.int .u8 18), .lit (.int .u8 6), .lit (.int .u8 11), .lit (.int .u8 5), .lit (.int .u8 10), .lit (.int .u8 9)]
def laid_math_bits_deBruijn64tab {H : Type} : DataW H := .agg [.lit (.int .u8 0), .lit (.int .u8 1), .lit (.int .u8 56), .lit (.int .u8 2), .lit (.int .u8 57), .lit (.int .u8 49), .lit (.int .u8 28), .lit (.int .u8 3), .lit (.int .u8 61), .lit (.int .u8 58), .lit (.int .u8 42), .lit (.int .u8 50), .lit (.int .u8 38), .lit (.int .u8 29), .lit (.int .u8 17), .lit (.int .u8 4), .lit (.int .u8 62), .lit (.int .u8 47), .lit (.int .u8 59), .lit (.int .u8 36), .lit (.int .u8 45), .lit (.int .u8 43), .lit (.int .u8 51), .lit (.int .u8 22), .lit (.int .u8 53), .lit (.int .u8 39), .lit (.int .u8 33), .lit (.int .u8 30), .lit (.int .u8 24), .lit (.int .u8 18), .lit (.int .u8 12), .lit (.int .u8 5), .lit (.int .u8 63), .lit (.int .u8 55), .lit (.int .u8 48), .lit (.int .u8 27), .lit (.int .u8 60), .lit (.int .u8 41), .lit (.int .u8 37), .lit (.int .u8 16), .lit (.int .u8 46), .lit (.int .u8 35), .lit (.int .u8 44), .lit (.int .u8 21), .lit (.int .u8 52), .lit (.int .u8 32), .lit (.int .u8 23), .lit (.int .u8 11), .lit (.int .u8 54), .lit (.int .u8 26), .lit (.int .u8 40), .lit (.int .u8 15), .lit (.int .u8 34), .lit (.int .u8 20), .lit (.int .u8 31), .lit (.int .u8 10), .lit (.int .u8 25), .lit (.int .u8 14), .lit (.int .u8 19), .lit (.int .u8 9), .lit (.int .u8 13), .lit (.int .u8 8), .lit (.int .u8 7), .lit (.int .u8 6)]
def laid_internal_strconv_uint64pow10 {H : Type} : DataW H := .agg [.lit (.int .u64 1), .lit (.int .u64 10), .lit (.int .u64 100), .lit (.int .u64 1000), .lit (.int .u64 10000), .lit (.int .u64 100000), .lit (.int .u64 1000000), .lit (.int .u64 10000000), .lit (.int .u64 100000000), .lit (.int .u64 1000000000), .lit (.int .u64 10000000000), .lit (.int .u64 100000000000), .lit (.int .u64 1000000000000), .lit (.int .u64 10000000000000), .lit (.int .u64 100000000000000), .lit (.int .u64 1000000000000000), .lit (.int .u64 10000000000000000), .lit (.int .u64 100000000000000000), .lit (.int .u64 1000000000000000000), .lit (.int .u64 10000000000000000000)]
def laid_strconv_ErrRange {H : Type} : DataW H := .iface "*errors.errorString" (.ptr (.agg [.lit (.string [118, 97, 108, 117, 101, 32, 111, 117, 116, 32, 111, 102, 32, 114, 97, 110, 103, 101])]))
def laid_strconv_ErrSyntax {H : Type} : DataW H := .iface "*errors.errorString" (.ptr (.agg [.lit (.string [105, 110, 118, 97, 108, 105, 100, 32, 115, 121, 110, 116, 97, 120])]))

/-- 'laws.FnJpBlockEnd': WHATEVER THE INPUT: true; the input reads as it did. -/
def fnJpBlockEndSpec : ChangeSpec := { name := "fnJpBlockEnd", fn := fun _ => fun
  | [d] => { results := [.lit (.bool true)], args := [d] }
  | _ => none }
def fnJpBlockEndRow : OpenClaim := { program := "ytiecdhkmlpceoaadoor", sum := "2addbcdfb60022fe3b5f6c3184687577913064dc1a68136723dcd0ec9ea780e9", func := "pub-tetrapla/laws.FnJpBlockEnd", spec := "fnJpBlockEnd", named := ["pub-tetrapla/pub/jsonparser.DefaultConfig", "encoding/binary.LittleEndian"], apart := false, laid := [("pub-tetrapla/pub/jsonparser.DefaultConfig", laid_pub_tetrapla_pub_jsonparser_DefaultConfig)] }
def FnJpBlockEndSaid : Prop := fnJpBlockEndRow.holds Tryd.pinned (OpenSpec.ofChange fnJpBlockEndSpec)

/-- ITS FALSE NEIGHBOUR: 'it returns false'. Refute it at one input. -/
def fnJpBlockEndWrong : ChangeSpec := { name := "fnJpBlockEnd", fn := fun _ => fun
  | [d] => { results := [.lit (.bool false)], args := [d] }
  | _ => none }
def FnJpBlockEndWrongFalsely : Prop := fnJpBlockEndRow.holds Tryd.pinned (OpenSpec.ofChange fnJpBlockEndWrong)

/-- 'laws.FnMtJoin': WHATEVER THE INPUT: true; the input reads as it did. -/
def fnMtJoinSpec : ChangeSpec := { name := "fnMtJoin", fn := fun _ => fun
  | [d1, d2, d3, d4] => { results := [.lit (.bool true)], args := [d1, d2, d3, d4] }
  | _ => none }
def fnMtJoinRow : OpenClaim := { program := "ytiecdhkmlpceoaadoor", sum := "2addbcdfb60022fe3b5f6c3184687577913064dc1a68136723dcd0ec9ea780e9", func := "pub-tetrapla/laws.FnMtJoin", spec := "fnMtJoin", recurses := true, named := ["unicode/utf8.first", "unicode/utf8.acceptRanges"], apart := false, laid := [("unicode/utf8.acceptRanges", laid_unicode_utf8_acceptRanges), ("unicode/utf8.first", laid_unicode_utf8_first)] }
def FnMtJoinSaid : Prop := fnMtJoinRow.holds Tryd.pinned (OpenSpec.ofChange fnMtJoinSpec)

/-- ITS FALSE NEIGHBOUR: 'it returns false'. Refute it at one input. -/
def fnMtJoinWrong : ChangeSpec := { name := "fnMtJoin", fn := fun _ => fun
  | [d1, d2, d3, d4] => { results := [.lit (.bool false)], args := [d1, d2, d3, d4] }
  | _ => none }
def FnMtJoinWrongFalsely : Prop := fnMtJoinRow.holds Tryd.pinned (OpenSpec.ofChange fnMtJoinWrong)

/-- 'laws.FnMtMatch': WHATEVER THE INPUT: true; the input reads as it did. -/
def fnMtMatchSpec : ChangeSpec := { name := "fnMtMatch", fn := fun _ => fun
  | [d1, d2] => { results := [.lit (.bool true)], args := [d1, d2] }
  | _ => none }
def fnMtMatchRow : OpenClaim := { program := "ytiecdhkmlpceoaadoor", sum := "2addbcdfb60022fe3b5f6c3184687577913064dc1a68136723dcd0ec9ea780e9", func := "pub-tetrapla/laws.FnMtMatch", spec := "fnMtMatch", recurses := true, named := ["unicode/utf8.first", "unicode/utf8.acceptRanges"], apart := false, laid := [("unicode/utf8.acceptRanges", laid_unicode_utf8_acceptRanges), ("unicode/utf8.first", laid_unicode_utf8_first)] }
def FnMtMatchSaid : Prop := fnMtMatchRow.holds Tryd.pinned (OpenSpec.ofChange fnMtMatchSpec)

/-- ITS FALSE NEIGHBOUR: 'it returns false'. Refute it at one input. -/
def fnMtMatchWrong : ChangeSpec := { name := "fnMtMatch", fn := fun _ => fun
  | [d1, d2] => { results := [.lit (.bool false)], args := [d1, d2] }
  | _ => none }
def FnMtMatchWrongFalsely : Prop := fnMtMatchRow.holds Tryd.pinned (OpenSpec.ofChange fnMtMatchWrong)

/-- 'laws.FnGjValidJoin': WHATEVER THE INPUT: true; the input reads as it did. -/
def fnGjValidJoinSpec : ChangeSpec := { name := "fnGjValidJoin", fn := fun _ => fun
  | [d1, d2] => { results := [.lit (.bool true)], args := [d1, d2] }
  | _ => none }
def fnGjValidJoinRow : OpenClaim := { program := "ytiecdhkmlpceoaadoor", sum := "2addbcdfb60022fe3b5f6c3184687577913064dc1a68136723dcd0ec9ea780e9", func := "pub-tetrapla/laws.FnGjValidJoin", spec := "fnGjValidJoin", recurses := true, named := ["pub-tetrapla/pub/gjson.hexchars", "unicode/utf8.first", "unicode/utf8.acceptRanges"], apart := false, laid := [("unicode/utf8.acceptRanges", laid_unicode_utf8_acceptRanges), ("pub-tetrapla/pub/gjson.hexchars", laid_pub_tetrapla_pub_gjson_hexchars), ("unicode/utf8.first", laid_unicode_utf8_first)] }
def FnGjValidJoinSaid : Prop := fnGjValidJoinRow.holds Tryd.pinned (OpenSpec.ofChange fnGjValidJoinSpec)

/-- ITS FALSE NEIGHBOUR: 'it returns false'. Refute it at one input. -/
def fnGjValidJoinWrong : ChangeSpec := { name := "fnGjValidJoin", fn := fun _ => fun
  | [d1, d2] => { results := [.lit (.bool false)], args := [d1, d2] }
  | _ => none }
def FnGjValidJoinWrongFalsely : Prop := fnGjValidJoinRow.holds Tryd.pinned (OpenSpec.ofChange fnGjValidJoinWrong)

/-- 'laws.FnFfDigits': WHATEVER THE INPUT: true; the input reads as it did. -/
def fnFfDigitsSpec : ChangeSpec := { name := "fnFfDigits", fn := fun _ => fun
  | [d] => { results := [.lit (.bool true)], args := [d] }
  | _ => none }
def fnFfDigitsRow : OpenClaim := { program := "ytiecdhkmlpceoaadoor", sum := "2addbcdfb60022fe3b5f6c3184687577913064dc1a68136723dcd0ec9ea780e9", func := "pub-tetrapla/laws.FnFfDigits", spec := "fnFfDigits", named := ["strconv.ErrSyntax", "strconv.ErrRange", "internal/strconv.uint64pow10", "math/bits.deBruijn32tab", "math/bits.deBruijn64tab"], apart := false, laid := [("math/bits.deBruijn32tab", laid_math_bits_deBruijn32tab), ("math/bits.deBruijn64tab", laid_math_bits_deBruijn64tab), ("internal/strconv.uint64pow10", laid_internal_strconv_uint64pow10), ("strconv.ErrRange", laid_strconv_ErrRange), ("strconv.ErrSyntax", laid_strconv_ErrSyntax)] }
def FnFfDigitsSaid : Prop := fnFfDigitsRow.holds Tryd.pinned (OpenSpec.ofChange fnFfDigitsSpec)

/-- ITS FALSE NEIGHBOUR: 'it returns false'. Refute it at one input. -/
def fnFfDigitsWrong : ChangeSpec := { name := "fnFfDigits", fn := fun _ => fun
  | [d] => { results := [.lit (.bool false)], args := [d] }
  | _ => none }
def FnFfDigitsWrongFalsely : Prop := fnFfDigitsRow.holds Tryd.pinned (OpenSpec.ofChange fnFfDigitsWrong)

/-- 'laws.FnFjCheckWhole': WHATEVER THE INPUT: true; the input reads as it did. -/
def fnFjCheckWholeSpec : ChangeSpec := { name := "fnFjCheckWhole", fn := fun _ => fun
  | [d] => { results := [.lit (.bool true)], args := [d] }
  | _ => none }
def fnFjCheckWholeRow : OpenClaim := { program := "ytiecdhkmlpceoaadoor", sum := "2addbcdfb60022fe3b5f6c3184687577913064dc1a68136723dcd0ec9ea780e9", func := "pub-tetrapla/laws.FnFjCheckWhole", spec := "fnFjCheckWhole", inPlace := ["internal/bytealg.IndexByteString"], recurses := true, named := ["strconv.ErrSyntax", "strconv.ErrRange", "internal/strconv.uint64pow10", "math/bits.deBruijn32tab", "math/bits.deBruijn64tab"], apart := false, laid := [("math/bits.deBruijn32tab", laid_math_bits_deBruijn32tab), ("math/bits.deBruijn64tab", laid_math_bits_deBruijn64tab), ("internal/strconv.uint64pow10", laid_internal_strconv_uint64pow10), ("strconv.ErrRange", laid_strconv_ErrRange), ("strconv.ErrSyntax", laid_strconv_ErrSyntax)] }
def FnFjCheckWholeSaid : Prop := fnFjCheckWholeRow.holds Tryd.pinned (OpenSpec.ofChange fnFjCheckWholeSpec)

/-- ITS FALSE NEIGHBOUR: 'it returns false'. Refute it at one input. -/
def fnFjCheckWholeWrong : ChangeSpec := { name := "fnFjCheckWhole", fn := fun _ => fun
  | [d] => { results := [.lit (.bool false)], args := [d] }
  | _ => none }
def FnFjCheckWholeWrongFalsely : Prop := fnFjCheckWholeRow.holds Tryd.pinned (OpenSpec.ofChange fnFjCheckWholeWrong)

/- THE SECOND FORM. 'bulk': how many values and letters a reading holds, each counted each time it is reached (what is shared counts as often as it is met; a slice's spare places count too). A statement '..UptoSaid' is the law's where the arguments, and the package variables that the reading takes, are together of bulk at most 1048576: NARROWER than '..Said'. Prove '..Said' where nothing that the law and all that it calls make is longer than what came in: it says more and counts as full. Else prove '..UptoSaid'. A law counts once. -/
mutual
def uptoBulk {H : Type} : DataW H → Nat
  | .lit (.string bytes) => bytes.length + 1
  | .lit _ => 1
  | .nil => 1
  | .ptr d => uptoBulk d + 1
  | .slice elems spare => uptoBulkAll elems + uptoBulkAll spare + 1
  | .agg parts => uptoBulkAll parts + 1
  | .iface _ d => uptoBulk d + 1
  | .map entries => uptoBulkEntries entries + 1
  | .held _ => 1
def uptoBulkAll {H : Type} : List (DataW H) → Nat
  | [] => 0
  | d :: r => uptoBulk d + uptoBulkAll r
def uptoBulkEntries {H : Type} : List (Lit × DataW H) → Nat
  | [] => 0
  | x :: r => uptoBulkEntry x + uptoBulkEntries r
def uptoBulkEntry {H : Type} : Lit × DataW H → Nat
  | (.string bytes, d) => bytes.length + uptoBulk d + 1
  | (_, d) => uptoBulk d + 1
 end
def uptoSmall : (H : Type) → List (DataW H) → Bool := fun _ ds => decide (uptoBulkAll ds ≤ 1048576)
def OpenSpec.upto (s : _root_.Go.ChangeSpec) : _root_.Go.OpenSpec := { _root_.Go.OpenSpec.ofChange s with cond := some uptoSmall }

/-- 'laws.FnJpBlockEnd', WHERE WHAT IT READS IS OF BULK AT MOST 1048576: true; the input reads as it did. -/
def fnJpBlockEndUptoRow : OpenClaim := { program := "ytiecdhkmlpceoaadoor", sum := "2addbcdfb60022fe3b5f6c3184687577913064dc1a68136723dcd0ec9ea780e9", func := "pub-tetrapla/laws.FnJpBlockEnd", spec := "fnJpBlockEnd", named := ["pub-tetrapla/pub/jsonparser.DefaultConfig", "encoding/binary.LittleEndian"], apart := false, laid := [("pub-tetrapla/pub/jsonparser.DefaultConfig", laid_pub_tetrapla_pub_jsonparser_DefaultConfig)], narrowed := true }
def FnJpBlockEndUptoSaid : Prop := fnJpBlockEndUptoRow.holds Tryd.pinned (OpenSpec.upto fnJpBlockEndSpec)

/-- 'laws.FnMtJoin', WHERE WHAT IT READS IS OF BULK AT MOST 1048576: true; the input reads as it did. -/
def fnMtJoinUptoRow : OpenClaim := { program := "ytiecdhkmlpceoaadoor", sum := "2addbcdfb60022fe3b5f6c3184687577913064dc1a68136723dcd0ec9ea780e9", func := "pub-tetrapla/laws.FnMtJoin", spec := "fnMtJoin", recurses := true, named := ["unicode/utf8.first", "unicode/utf8.acceptRanges"], apart := false, laid := [("unicode/utf8.acceptRanges", laid_unicode_utf8_acceptRanges), ("unicode/utf8.first", laid_unicode_utf8_first)], narrowed := true }
def FnMtJoinUptoSaid : Prop := fnMtJoinUptoRow.holds Tryd.pinned (OpenSpec.upto fnMtJoinSpec)

/-- 'laws.FnMtMatch', WHERE WHAT IT READS IS OF BULK AT MOST 1048576: true; the input reads as it did. -/
def fnMtMatchUptoRow : OpenClaim := { program := "ytiecdhkmlpceoaadoor", sum := "2addbcdfb60022fe3b5f6c3184687577913064dc1a68136723dcd0ec9ea780e9", func := "pub-tetrapla/laws.FnMtMatch", spec := "fnMtMatch", recurses := true, named := ["unicode/utf8.first", "unicode/utf8.acceptRanges"], apart := false, laid := [("unicode/utf8.acceptRanges", laid_unicode_utf8_acceptRanges), ("unicode/utf8.first", laid_unicode_utf8_first)], narrowed := true }
def FnMtMatchUptoSaid : Prop := fnMtMatchUptoRow.holds Tryd.pinned (OpenSpec.upto fnMtMatchSpec)

/-- 'laws.FnGjValidJoin', WHERE WHAT IT READS IS OF BULK AT MOST 1048576: true; the input reads as it did. -/
def fnGjValidJoinUptoRow : OpenClaim := { program := "ytiecdhkmlpceoaadoor", sum := "2addbcdfb60022fe3b5f6c3184687577913064dc1a68136723dcd0ec9ea780e9", func := "pub-tetrapla/laws.FnGjValidJoin", spec := "fnGjValidJoin", recurses := true, named := ["pub-tetrapla/pub/gjson.hexchars", "unicode/utf8.first", "unicode/utf8.acceptRanges"], apart := false, laid := [("unicode/utf8.acceptRanges", laid_unicode_utf8_acceptRanges), ("pub-tetrapla/pub/gjson.hexchars", laid_pub_tetrapla_pub_gjson_hexchars), ("unicode/utf8.first", laid_unicode_utf8_first)], narrowed := true }
def FnGjValidJoinUptoSaid : Prop := fnGjValidJoinUptoRow.holds Tryd.pinned (OpenSpec.upto fnGjValidJoinSpec)

/-- 'laws.FnFfDigits', WHERE WHAT IT READS IS OF BULK AT MOST 1048576: true; the input reads as it did. -/
def fnFfDigitsUptoRow : OpenClaim := { program := "ytiecdhkmlpceoaadoor", sum := "2addbcdfb60022fe3b5f6c3184687577913064dc1a68136723dcd0ec9ea780e9", func := "pub-tetrapla/laws.FnFfDigits", spec := "fnFfDigits", named := ["strconv.ErrSyntax", "strconv.ErrRange", "internal/strconv.uint64pow10", "math/bits.deBruijn32tab", "math/bits.deBruijn64tab"], apart := false, laid := [("math/bits.deBruijn32tab", laid_math_bits_deBruijn32tab), ("math/bits.deBruijn64tab", laid_math_bits_deBruijn64tab), ("internal/strconv.uint64pow10", laid_internal_strconv_uint64pow10), ("strconv.ErrRange", laid_strconv_ErrRange), ("strconv.ErrSyntax", laid_strconv_ErrSyntax)], narrowed := true }
def FnFfDigitsUptoSaid : Prop := fnFfDigitsUptoRow.holds Tryd.pinned (OpenSpec.upto fnFfDigitsSpec)

/-- 'laws.FnFjCheckWhole', WHERE WHAT IT READS IS OF BULK AT MOST 1048576: true; the input reads as it did. -/
def fnFjCheckWholeUptoRow : OpenClaim := { program := "ytiecdhkmlpceoaadoor", sum := "2addbcdfb60022fe3b5f6c3184687577913064dc1a68136723dcd0ec9ea780e9", func := "pub-tetrapla/laws.FnFjCheckWhole", spec := "fnFjCheckWhole", inPlace := ["internal/bytealg.IndexByteString"], recurses := true, named := ["strconv.ErrSyntax", "strconv.ErrRange", "internal/strconv.uint64pow10", "math/bits.deBruijn32tab", "math/bits.deBruijn64tab"], apart := false, laid := [("math/bits.deBruijn32tab", laid_math_bits_deBruijn32tab), ("math/bits.deBruijn64tab", laid_math_bits_deBruijn64tab), ("internal/strconv.uint64pow10", laid_internal_strconv_uint64pow10), ("strconv.ErrRange", laid_strconv_ErrRange), ("strconv.ErrSyntax", laid_strconv_ErrSyntax)], narrowed := true }
def FnFjCheckWholeUptoSaid : Prop := fnFjCheckWholeUptoRow.holds Tryd.pinned (OpenSpec.upto fnFjCheckWholeSpec)

end Rows
end Go.Proofs.YtiecdhkmlpceoaaDoor
