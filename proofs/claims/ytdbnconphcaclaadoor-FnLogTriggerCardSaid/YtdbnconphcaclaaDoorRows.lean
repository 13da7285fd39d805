/-
  NARROWER THAN 'FOR EVERY INPUT', by the rows' own cells (each row's printed sentence says how): FnLogSpan: laid · FnLogStringApart: laid · FnLogStringPlain: laid · FnLogString: laid · FnLogMoment: laid · FnLogMulti: laid · FnLogTrigger: laid.
  DERIVED. THE GIVEN ROWS OF THIS SEAT. 7 by the template 'for every input the law returns true; each argument reads behind the call as it read before'; 0 by the template 'total and deterministic' (their statements: YtdbnconphcaclaaDoorTotals.lean).
  GIVEN WITH THE SEED: the statements are not yours to turn. If you find one false, say at which input.
  Laid BY PROGRAM, IN A SANDBOX (cutbox-rows.mjs): the forced cells as the released guide's own fill.sh prints them over the translation f7b1543d80c2125f… (all of the seat's roots in one cut). By AI agents, Wed Nov 11 2026. No macro, syntax, notation, axiom, sorry.
-/
import Derived.Test.YtdbnconphcaclaaDoorChecked
import GoSem.PinnedTables
import GoSem.Claim
import GoSem.ClaimJoined
import GoSem.ClaimMapViews
import Derived.JoinedTies
import Derived.KernelRfl
namespace Go.Proofs.YtdbnconphcaclaaDoor
/- THE CELL 'sum', in the pinned program and in every row, IS THE sha256 OF THE DUMP (.gsa) THAT YtdbnconphcaclaaDoorProg.lean LOADS. Nothing in Lean hashes anything: it is a label: what it is worth is what the hold of that sum in a sandbox is worth. -/
noncomputable def Tryd.pinned : Pinned := { name := "ytdbnconphcaclaadoor", sum := "f7b1543d80c2125f06a7d8540b1b066ea2461ee36cd8a90578b9a255813a9671", checked := Tryd.checked }
namespace Rows
def none {H : Type} : Left H := { results := [], args := [] }

/- WHAT THE LISTED PACKAGE-LEVEL VARIABLES READ AS WHEN THE CALL BEGINS. Each datum BY PROGRAM (the guide's laid-datum.mjs) off the statement by which the dump's own 'gosem.cut.vars' lays the variable. In a bare row this is a premise. The card (YtdbnconphcaclaaDoorCards.lean) ties it to the program's text. -/
def laid_math_bits_deBruijn32tab {H : Type} : DataW H := .agg [.lit (.int .u8 0), .lit (.int .u8 1), .lit (.int .u8 28), .lit (.int .u8 2), .lit (.int .u8 29), .lit (.int .u8 14), .lit (.int .u8 24), .lit (.int .u8 3), .lit (.int .u8 30), .lit (.int .u8 22), .lit (.int .u8 20), .lit (.int .u8 15), .lit (.int .u8 25), .lit (.int .u8 17), .lit (.int .u8 4), .lit (.int .u8 8), .lit (.int .u8 31), .lit (.int .u8 27), .lit (.int .u8 13), .lit (.int .u8 23), .lit (.int .u8 21), .lit (.int .u8 19), .lit (.int .u8 16), .lit (.int .u8 7), .lit (.int .u8 26), .lit (.int .u8 12), .lit (.int .u8 18), .lit (.int .u8 6), .lit (.int .u8 11), .lit (.int .u8 5), .lit (.int .u8 10), .lit (.int .u8 9)]
def laid_math_bits_deBruijn64tab {H : Type} : DataW H := .agg [.lit (.int .u8 0), .lit (.int .u8 1), .lit (.int .u8 56), .lit (.int .u8 2), .lit (.int .u8 57), .lit (.int .u8 49), .lit (.int .u8 28), .lit (.int .u8 3), .lit (.int .u8 61), .lit (.int .u8 58), .lit (.int .u8 42), .lit (.int .u8 50), .lit (.int .u8 38), .lit (.int .u8 29), .lit (.int .u8 17), .lit (.int .u8 4), .lit (.int .u8 62), .lit (.int .u8 47), .lit (.int .u8 59), .lit (.int .u8 36), .lit (.int .u8 45), .lit (.int .u8 43), .lit (.int .u8 51), .lit (.int .u8 22), .lit (.int .u8 53), .lit (.int .u8 39), .lit (.int .u8 33), .lit (.int .u8 30), .lit (.int .u8 24), .lit (.int .u8 18), .lit (.int .u8 12), .lit (.int .u8 5), .lit (.int .u8 63), .lit (.int .u8 55), .lit (.int .u8 48), .lit (.int .u8 27), .lit (.int .u8 60), .lit (.int .u8 41), .lit (.int .u8 37), .lit (.int .u8 16), .lit (.int .u8 46), .lit (.int .u8 35), .lit (.int .u8 44), .lit (.int .u8 21), .lit (.int .u8 52), .lit (.int .u8 32), .lit (.int .u8 23), .lit (.int .u8 11), .lit (.int .u8 54), .lit (.int .u8 26), .lit (.int .u8 40), .lit (.int .u8 15), .lit (.int .u8 34), .lit (.int .u8 20), .lit (.int .u8 31), .lit (.int .u8 10), .lit (.int .u8 25), .lit (.int .u8 14), .lit (.int .u8 19), .lit (.int .u8 9), .lit (.int .u8 13), .lit (.int .u8 8), .lit (.int .u8 7), .lit (.int .u8 6)]
def laid_internal_strconv_uint64pow10 {H : Type} : DataW H := .agg [.lit (.int .u64 1), .lit (.int .u64 10), .lit (.int .u64 100), .lit (.int .u64 1000), .lit (.int .u64 10000), .lit (.int .u64 100000), .lit (.int .u64 1000000), .lit (.int .u64 10000000), .lit (.int .u64 100000000), .lit (.int .u64 1000000000), .lit (.int .u64 10000000000), .lit (.int .u64 100000000000), .lit (.int .u64 1000000000000), .lit (.int .u64 10000000000000), .lit (.int .u64 100000000000000), .lit (.int .u64 1000000000000000), .lit (.int .u64 10000000000000000), .lit (.int .u64 100000000000000000), .lit (.int .u64 1000000000000000000), .lit (.int .u64 10000000000000000000)]
def laid_strconv_ErrRange {H : Type} : DataW H := .iface "*errors.errorString" (.ptr (.agg [.lit (.string [118, 97, 108, 117, 101, 32, 111, 117, 116, 32, 111, 102, 32, 114, 97, 110, 103, 101])]))
def laid_strconv_ErrSyntax {H : Type} : DataW H := .iface "*errors.errorString" (.ptr (.agg [.lit (.string [105, 110, 118, 97, 108, 105, 100, 32, 115, 121, 110, 116, 97, 120])]))
def laid_unicode_utf8_acceptRanges {H : Type} : DataW H := .agg [.agg [.lit (.int .u8 128), .lit (.int .u8 191)], .agg [.lit (.int .u8 160), .lit (.int .u8 191)], .agg [.lit (.int .u8 128), .lit (.int .u8 159)], .agg [.lit (.int .u8 144), .lit (.int .u8 191)], .agg [.lit (.int .u8 128), .lit (.int .u8 143)], .agg [.lit (.int .u8 0), .lit (.int .u8 0)], .agg [.lit (.int .u8 0), .lit (.int .u8 0)], .agg [.lit (.int .u8 0), .lit (.int .u8 0)], .agg [.lit (.int .u8 0), .lit (.int .u8 0)], .agg [.lit (.int .u8 0), .lit (.int .u8 0)], .agg [.lit (.int .u8 0), .lit (.int .u8 0)], .agg [.lit (.int .u8 0), .lit (.int .u8 0)], .agg [.lit (.int .u8 0), .lit (.int .u8 0)], .agg [.lit (.int .u8 0), .lit (.int .u8 0)], .agg [.lit (.int .u8 0), .lit (.int .u8 0)], .agg [.lit (.int .u8 0), .lit (.int .u8 0)]]
/-- One of Go's own tables, pinned by name: the form's constant. -/
def laid_unicode_utf8_first : DataW Unit := Go.Pinned.utf8First
def laid_given_example_pub_chandler_pub_ztime_std0x {H : Type} : DataW H := .agg [.lit (.int .i64 260), .lit (.int .i64 265), .lit (.int .i64 1038), .lit (.int .i64 1040), .lit (.int .i64 1042), .lit (.int .i64 276)]
def laid_given_example_pub_chandler_pub_ztime_longDayNames {H : Type} : DataW H := .slice [.lit (.string [83, 117, 110, 100, 97, 121]), .lit (.string [77, 111, 110, 100, 97, 121]), .lit (.string [84, 117, 101, 115, 100, 97, 121]), .lit (.string [87, 101, 100, 110, 101, 115, 100, 97, 121]), .lit (.string [84, 104, 117, 114, 115, 100, 97, 121]), .lit (.string [70, 114, 105, 100, 97, 121]), .lit (.string [83, 97, 116, 117, 114, 100, 97, 121])] []
def laid_given_example_pub_chandler_pub_ztime_longMonthNames {H : Type} : DataW H := .slice [.lit (.string [74, 97, 110, 117, 97, 114, 121]), .lit (.string [70, 101, 98, 114, 117, 97, 114, 121]), .lit (.string [77, 97, 114, 99, 104]), .lit (.string [65, 112, 114, 105, 108]), .lit (.string [77, 97, 121]), .lit (.string [74, 117, 110, 101]), .lit (.string [74, 117, 108, 121]), .lit (.string [65, 117, 103, 117, 115, 116]), .lit (.string [83, 101, 112, 116, 101, 109, 98, 101, 114]), .lit (.string [79, 99, 116, 111, 98, 101, 114]), .lit (.string [78, 111, 118, 101, 109, 98, 101, 114]), .lit (.string [68, 101, 99, 101, 109, 98, 101, 114])] []
def laid_bytes_ErrTooLarge {H : Type} : DataW H := .iface "*errors.errorString" (.ptr (.agg [.lit (.string [98, 121, 116, 101, 115, 46, 66, 117, 102, 102, 101, 114, 58, 32, 116, 111, 111, 32, 108, 97, 114, 103, 101])]))

/-- 'laws.FnLogSpan': WHATEVER THE INPUT: true; the input reads as it did. -/
def fnLogSpanSpec : ChangeSpec := { name := "fnLogSpan", fn := fun _ => fun
  | [d] => { results := [.lit (.bool true)], args := [d] }
  | _ => none }
def fnLogSpanRow : OpenClaim := { program := "ytdbnconphcaclaadoor", sum := "f7b1543d80c2125f06a7d8540b1b066ea2461ee36cd8a90578b9a255813a9671", func := "given.example/pub-chandler/laws.FnLogSpan", spec := "fnLogSpan", unfollowed := true, recurses := true, named := ["internal/strconv.uint64pow10", "math/bits.deBruijn32tab", "math/bits.deBruijn64tab", "strconv.ErrSyntax", "strconv.ErrRange"], apart := false, laid := [("math/bits.deBruijn32tab", laid_math_bits_deBruijn32tab), ("math/bits.deBruijn64tab", laid_math_bits_deBruijn64tab), ("internal/strconv.uint64pow10", laid_internal_strconv_uint64pow10), ("strconv.ErrRange", laid_strconv_ErrRange), ("strconv.ErrSyntax", laid_strconv_ErrSyntax)] }
def FnLogSpanSaid : Prop := fnLogSpanRow.holds Tryd.pinned (OpenSpec.ofChange fnLogSpanSpec)

/-- ITS FALSE NEIGHBOUR: 'it returns false'. Refute it at one input. -/
def fnLogSpanWrong : ChangeSpec := { name := "fnLogSpan", fn := fun _ => fun
  | [d] => { results := [.lit (.bool false)], args := [d] }
  | _ => none }
def FnLogSpanWrongFalsely : Prop := fnLogSpanRow.holds Tryd.pinned (OpenSpec.ofChange fnLogSpanWrong)

/-- 'laws.FnLogStringApart': WHATEVER THE INPUT: true; the input reads as it did. -/
def fnLogStringApartSpec : ChangeSpec := { name := "fnLogStringApart", fn := fun _ => fun
  | [d1, d2] => { results := [.lit (.bool true)], args := [d1, d2] }
  | _ => none }
def fnLogStringApartRow : OpenClaim := { program := "ytdbnconphcaclaadoor", sum := "f7b1543d80c2125f06a7d8540b1b066ea2461ee36cd8a90578b9a255813a9671", func := "given.example/pub-chandler/laws.FnLogStringApart", spec := "fnLogStringApart", named := ["unicode/utf8.first", "unicode/utf8.acceptRanges", "internal/strconv.uint64pow10", "math/bits.deBruijn32tab", "math/bits.deBruijn64tab", "strconv.ErrSyntax", "strconv.ErrRange"], apart := false, laid := [("math/bits.deBruijn32tab", laid_math_bits_deBruijn32tab), ("math/bits.deBruijn64tab", laid_math_bits_deBruijn64tab), ("internal/strconv.uint64pow10", laid_internal_strconv_uint64pow10), ("unicode/utf8.acceptRanges", laid_unicode_utf8_acceptRanges), ("strconv.ErrRange", laid_strconv_ErrRange), ("strconv.ErrSyntax", laid_strconv_ErrSyntax), ("unicode/utf8.first", laid_unicode_utf8_first)] }
def FnLogStringApartSaid : Prop := fnLogStringApartRow.holds Tryd.pinned (OpenSpec.ofChange fnLogStringApartSpec)

/-- ITS FALSE NEIGHBOUR: 'it returns false'. Refute it at one input. -/
def fnLogStringApartWrong : ChangeSpec := { name := "fnLogStringApart", fn := fun _ => fun
  | [d1, d2] => { results := [.lit (.bool false)], args := [d1, d2] }
  | _ => none }
def FnLogStringApartWrongFalsely : Prop := fnLogStringApartRow.holds Tryd.pinned (OpenSpec.ofChange fnLogStringApartWrong)

/-- 'laws.FnLogStringPlain': WHATEVER THE INPUT: true; the input reads as it did. -/
def fnLogStringPlainSpec : ChangeSpec := { name := "fnLogStringPlain", fn := fun _ => fun
  | [d] => { results := [.lit (.bool true)], args := [d] }
  | _ => none }
def fnLogStringPlainRow : OpenClaim := { program := "ytdbnconphcaclaadoor", sum := "f7b1543d80c2125f06a7d8540b1b066ea2461ee36cd8a90578b9a255813a9671", func := "given.example/pub-chandler/laws.FnLogStringPlain", spec := "fnLogStringPlain", named := ["unicode/utf8.first", "unicode/utf8.acceptRanges", "internal/strconv.uint64pow10", "math/bits.deBruijn32tab", "math/bits.deBruijn64tab", "strconv.ErrSyntax", "strconv.ErrRange"], apart := false, laid := [("math/bits.deBruijn32tab", laid_math_bits_deBruijn32tab), ("math/bits.deBruijn64tab", laid_math_bits_deBruijn64tab), ("internal/strconv.uint64pow10", laid_internal_strconv_uint64pow10), ("unicode/utf8.acceptRanges", laid_unicode_utf8_acceptRanges), ("strconv.ErrRange", laid_strconv_ErrRange), ("strconv.ErrSyntax", laid_strconv_ErrSyntax), ("unicode/utf8.first", laid_unicode_utf8_first)] }
def FnLogStringPlainSaid : Prop := fnLogStringPlainRow.holds Tryd.pinned (OpenSpec.ofChange fnLogStringPlainSpec)

/-- ITS FALSE NEIGHBOUR: 'it returns false'. Refute it at one input. -/
def fnLogStringPlainWrong : ChangeSpec := { name := "fnLogStringPlain", fn := fun _ => fun
  | [d] => { results := [.lit (.bool false)], args := [d] }
  | _ => none }
def FnLogStringPlainWrongFalsely : Prop := fnLogStringPlainRow.holds Tryd.pinned (OpenSpec.ofChange fnLogStringPlainWrong)

/-- 'laws.FnLogString': WHATEVER THE INPUT: true; the input reads as it did. -/
def fnLogStringSpec : ChangeSpec := { name := "fnLogString", fn := fun _ => fun
  | [d] => { results := [.lit (.bool true)], args := [d] }
  | _ => none }
def fnLogStringRow : OpenClaim := { program := "ytdbnconphcaclaadoor", sum := "f7b1543d80c2125f06a7d8540b1b066ea2461ee36cd8a90578b9a255813a9671", func := "given.example/pub-chandler/laws.FnLogString", spec := "fnLogString", unfollowed := true, recurses := true, named := ["unicode/utf8.first", "unicode/utf8.acceptRanges", "internal/strconv.uint64pow10", "math/bits.deBruijn32tab", "math/bits.deBruijn64tab", "strconv.ErrSyntax", "strconv.ErrRange"], apart := false, laid := [("math/bits.deBruijn32tab", laid_math_bits_deBruijn32tab), ("math/bits.deBruijn64tab", laid_math_bits_deBruijn64tab), ("internal/strconv.uint64pow10", laid_internal_strconv_uint64pow10), ("unicode/utf8.acceptRanges", laid_unicode_utf8_acceptRanges), ("strconv.ErrRange", laid_strconv_ErrRange), ("strconv.ErrSyntax", laid_strconv_ErrSyntax), ("unicode/utf8.first", laid_unicode_utf8_first)] }
def FnLogStringSaid : Prop := fnLogStringRow.holds Tryd.pinned (OpenSpec.ofChange fnLogStringSpec)

/-- ITS FALSE NEIGHBOUR: 'it returns false'. Refute it at one input. -/
def fnLogStringWrong : ChangeSpec := { name := "fnLogString", fn := fun _ => fun
  | [d] => { results := [.lit (.bool false)], args := [d] }
  | _ => none }
def FnLogStringWrongFalsely : Prop := fnLogStringRow.holds Tryd.pinned (OpenSpec.ofChange fnLogStringWrong)

/-- 'laws.FnLogMoment': WHATEVER THE INPUT: true; the input reads as it did. -/
def fnLogMomentSpec : ChangeSpec := { name := "fnLogMoment", vars := ["given.example/pub-chandler/pub/ztime.std0x", "given.example/pub-chandler/pub/ztime.longMonthNames", "given.example/pub-chandler/pub/ztime.longDayNames"], fn := fun _ => fun
  | [d1, d2, d3, g1, g2, g3] => { results := [.lit (.bool true)], args := [d1, d2, d3], vars := [g1, g2, g3] }
  | _ => none }
def fnLogMomentRow : OpenClaim := { program := "ytdbnconphcaclaadoor", sum := "f7b1543d80c2125f06a7d8540b1b066ea2461ee36cd8a90578b9a255813a9671", func := "given.example/pub-chandler/laws.FnLogMoment", spec := "fnLogMoment", unfollowed := true, recurses := true, named := ["given.example/pub-chandler/pub/ztime.std0x", "given.example/pub-chandler/pub/ztime.longMonthNames", "given.example/pub-chandler/pub/ztime.longDayNames", "internal/strconv.uint64pow10", "math/bits.deBruijn32tab", "math/bits.deBruijn64tab", "strconv.ErrSyntax", "strconv.ErrRange"], apart := false, laid := [("math/bits.deBruijn32tab", laid_math_bits_deBruijn32tab), ("math/bits.deBruijn64tab", laid_math_bits_deBruijn64tab), ("given.example/pub-chandler/pub/ztime.std0x", laid_given_example_pub_chandler_pub_ztime_std0x), ("given.example/pub-chandler/pub/ztime.longDayNames", laid_given_example_pub_chandler_pub_ztime_longDayNames), ("given.example/pub-chandler/pub/ztime.longMonthNames", laid_given_example_pub_chandler_pub_ztime_longMonthNames), ("internal/strconv.uint64pow10", laid_internal_strconv_uint64pow10), ("strconv.ErrRange", laid_strconv_ErrRange), ("strconv.ErrSyntax", laid_strconv_ErrSyntax)] }
def FnLogMomentSaid : Prop := fnLogMomentRow.holds Tryd.pinned (OpenSpec.ofChange fnLogMomentSpec)

/-- ITS FALSE NEIGHBOUR: 'it returns false'. Refute it at one input. -/
def fnLogMomentWrong : ChangeSpec := { name := "fnLogMoment", vars := ["given.example/pub-chandler/pub/ztime.std0x", "given.example/pub-chandler/pub/ztime.longMonthNames", "given.example/pub-chandler/pub/ztime.longDayNames"], fn := fun _ => fun
  | [d1, d2, d3, g1, g2, g3] => { results := [.lit (.bool false)], args := [d1, d2, d3], vars := [g1, g2, g3] }
  | _ => none }
def FnLogMomentWrongFalsely : Prop := fnLogMomentRow.holds Tryd.pinned (OpenSpec.ofChange fnLogMomentWrong)

/-- 'laws.FnLogMulti': WHATEVER THE INPUT: true; the input reads as it did. -/
def fnLogMultiSpec : ChangeSpec := { name := "fnLogMulti", fn := fun _ => fun
  | [d1, d2] => { results := [.lit (.bool true)], args := [d1, d2] }
  | _ => none }
def fnLogMultiRow : OpenClaim := { program := "ytdbnconphcaclaadoor", sum := "f7b1543d80c2125f06a7d8540b1b066ea2461ee36cd8a90578b9a255813a9671", func := "given.example/pub-chandler/laws.FnLogMulti", spec := "fnLogMulti", unfollowed := true, recurses := true, named := ["internal/strconv.uint64pow10", "math/bits.deBruijn32tab", "math/bits.deBruijn64tab", "strconv.ErrSyntax", "strconv.ErrRange"], apart := false, laid := [("math/bits.deBruijn32tab", laid_math_bits_deBruijn32tab), ("math/bits.deBruijn64tab", laid_math_bits_deBruijn64tab), ("internal/strconv.uint64pow10", laid_internal_strconv_uint64pow10), ("strconv.ErrRange", laid_strconv_ErrRange), ("strconv.ErrSyntax", laid_strconv_ErrSyntax)] }
def FnLogMultiSaid : Prop := fnLogMultiRow.holds Tryd.pinned (OpenSpec.ofChange fnLogMultiSpec)

/-- ITS FALSE NEIGHBOUR: 'it returns false'. Refute it at one input. -/
def fnLogMultiWrong : ChangeSpec := { name := "fnLogMulti", fn := fun _ => fun
  | [d1, d2] => { results := [.lit (.bool false)], args := [d1, d2] }
  | _ => none }
def FnLogMultiWrongFalsely : Prop := fnLogMultiRow.holds Tryd.pinned (OpenSpec.ofChange fnLogMultiWrong)

/-- 'laws.FnLogTrigger': WHATEVER THE INPUT: true; the input reads as it did. -/
def fnLogTriggerSpec : ChangeSpec := { name := "fnLogTrigger", fn := fun _ => fun
  | [d1, d2, d3] => { results := [.lit (.bool true)], args := [d1, d2, d3] }
  | _ => none }
def fnLogTriggerRow : OpenClaim := { program := "ytdbnconphcaclaadoor", sum := "f7b1543d80c2125f06a7d8540b1b066ea2461ee36cd8a90578b9a255813a9671", func := "given.example/pub-chandler/laws.FnLogTrigger", spec := "fnLogTrigger", inPlace := ["internal/bytealg.IndexByte", "internal/bytealg.IndexByteString"], unfollowed := true, recurses := true, named := ["bytes.ErrTooLarge", "internal/strconv.uint64pow10", "math/bits.deBruijn32tab", "math/bits.deBruijn64tab", "strconv.ErrSyntax", "strconv.ErrRange"], apart := false, laid := [("math/bits.deBruijn32tab", laid_math_bits_deBruijn32tab), ("math/bits.deBruijn64tab", laid_math_bits_deBruijn64tab), ("internal/strconv.uint64pow10", laid_internal_strconv_uint64pow10), ("strconv.ErrRange", laid_strconv_ErrRange), ("strconv.ErrSyntax", laid_strconv_ErrSyntax), ("bytes.ErrTooLarge", laid_bytes_ErrTooLarge)] }
def FnLogTriggerSaid : Prop := fnLogTriggerRow.holds Tryd.pinned (OpenSpec.ofChange fnLogTriggerSpec)

/-- ITS FALSE NEIGHBOUR: 'it returns false'. Refute it at one input. -/
def fnLogTriggerWrong : ChangeSpec := { name := "fnLogTrigger", fn := fun _ => fun
  | [d1, d2, d3] => { results := [.lit (.bool false)], args := [d1, d2, d3] }
  | _ => none }
def FnLogTriggerWrongFalsely : Prop := fnLogTriggerRow.holds Tryd.pinned (OpenSpec.ofChange fnLogTriggerWrong)

/- THE SECOND FORM. 'bulk': how many values and letters a reading holds, each counted each time it is reached (what is shared counts as often as it is met; a slice's spare places count too). A statement '..UptoSaid' is the law's where the arguments, and the package variables that the reading takes, are together of bulk at most 1048576: NARROWER than '..Said'. Prove '..Said' where nothing that the law and all that it calls make is longer than what came in: it says more and counts as full. Else prove '..UptoSaid'. A law counts once. -/
mutual
def uptoBulk {H : Type} : DataW H → Nat
  | .lit (.string bytes) => bytes.length + 1
  | .lit _ => 1
  | .nil => 1
  | .ptr d => uptoBulk d + 1
  | .slice elems spare => uptoBulkAll elems + uptoBulkAll spare + 1
  | .agg parts => uptoBulkAll parts + 1
  | .iface _ d => uptoBulk d + 1
  | .map entries => uptoBulkEntries entries + 1
  | .held _ => 1
def uptoBulkAll {H : Type} : List (DataW H) → Nat
  | [] => 0
  | d :: r => uptoBulk d + uptoBulkAll r
def uptoBulkEntries {H : Type} : List (Lit × DataW H) → Nat
  | [] => 0
  | x :: r => uptoBulkEntry x + uptoBulkEntries r
def uptoBulkEntry {H : Type} : Lit × DataW H → Nat
  | (.string bytes, d) => bytes.length + uptoBulk d + 1
  | (_, d) => uptoBulk d + 1
 end
def uptoSmall : (H : Type) → List (DataW H) → Bool := fun _ ds => decide (uptoBulkAll ds ≤ 1048576)
def OpenSpec.upto (s : _root_.Go.ChangeSpec) : _root_.Go.OpenSpec := { _root_.Go.OpenSpec.ofChange s with cond := some uptoSmall }

/-- 'laws.FnLogSpan', WHERE WHAT IT READS IS OF BULK AT MOST 1048576: true; the input reads as it did. -/
def fnLogSpanUptoRow : OpenClaim := { program := "ytdbnconphcaclaadoor", sum := "f7b1543d80c2125f06a7d8540b1b066ea2461ee36cd8a90578b9a255813a9671", func := "given.example/pub-chandler/laws.FnLogSpan", spec := "fnLogSpan", unfollowed := true, recurses := true, named := ["internal/strconv.uint64pow10", "math/bits.deBruijn32tab", "math/bits.deBruijn64tab", "strconv.ErrSyntax", "strconv.ErrRange"], apart := false, laid := [("math/bits.deBruijn32tab", laid_math_bits_deBruijn32tab), ("math/bits.deBruijn64tab", laid_math_bits_deBruijn64tab), ("internal/strconv.uint64pow10", laid_internal_strconv_uint64pow10), ("strconv.ErrRange", laid_strconv_ErrRange), ("strconv.ErrSyntax", laid_strconv_ErrSyntax)], narrowed := true }
def FnLogSpanUptoSaid : Prop := fnLogSpanUptoRow.holds Tryd.pinned (OpenSpec.upto fnLogSpanSpec)

/-- 'laws.FnLogStringApart', WHERE WHAT IT READS IS OF BULK AT MOST 1048576: true; the input reads as it did. -/
def fnLogStringApartUptoRow : OpenClaim := { program := "ytdbnconphcaclaadoor", sum := "f7b1543d80c2125f06a7d8540b1b066ea2461ee36cd8a90578b9a255813a9671", func := "given.example/pub-chandler/laws.FnLogStringApart", spec := "fnLogStringApart", named := ["unicode/utf8.first", "unicode/utf8.acceptRanges", "internal/strconv.uint64pow10", "math/bits.deBruijn32tab", "math/bits.deBruijn64tab", "strconv.ErrSyntax", "strconv.ErrRange"], apart := false, laid := [("math/bits.deBruijn32tab", laid_math_bits_deBruijn32tab), ("math/bits.deBruijn64tab", laid_math_bits_deBruijn64tab), ("internal/strconv.uint64pow10", laid_internal_strconv_uint64pow10), ("unicode/utf8.acceptRanges", laid_unicode_utf8_acceptRanges), ("strconv.ErrRange", laid_strconv_ErrRange), ("strconv.ErrSyntax", laid_strconv_ErrSyntax), ("unicode/utf8.first", laid_unicode_utf8_first)], narrowed := true }
def FnLogStringApartUptoSaid : Prop := fnLogStringApartUptoRow.holds Tryd.pinned (OpenSpec.upto fnLogStringApartSpec)

/-- 'laws.FnLogStringPlain', WHERE WHAT IT READS IS OF BULK AT MOST 1048576: true; the input reads as it did. -/
def fnLogStringPlainUptoRow : OpenClaim := { program := "ytdbnconphcaclaadoor", sum := "f7b1543d80c2125f06a7d8540b1b066ea2461ee36cd8a90578b9a255813a9671", func := "given.example/pub-chandler/laws.FnLogStringPlain", spec := "fnLogStringPlain", named := ["unicode/utf8.first", "unicode/utf8.acceptRanges", "internal/strconv.uint64pow10", "math/bits.deBruijn32tab", "math/bits.deBruijn64tab", "strconv.ErrSyntax", "strconv.ErrRange"], apart := false, laid := [("math/bits.deBruijn32tab", laid_math_bits_deBruijn32tab), ("math/bits.deBruijn64tab", laid_math_bits_deBruijn64tab), ("internal/strconv.uint64pow10", laid_internal_strconv_uint64pow10), ("unicode/utf8.acceptRanges", laid_unicode_utf8_acceptRanges), ("strconv.ErrRange", laid_strconv_ErrRange), ("strconv.ErrSyntax", laid_strconv_ErrSyntax), ("unicode/utf8.first", laid_unicode_utf8_first)], narrowed := true }
def FnLogStringPlainUptoSaid : Prop := fnLogStringPlainUptoRow.holds Tryd.pinned (OpenSpec.upto fnLogStringPlainSpec)

/-- 'laws.FnLogString', WHERE WHAT IT READS IS OF BULK AT MOST 1048576: true; the input reads as it did. -/
def fnLogStringUptoRow : OpenClaim := { program := "ytdbnconphcaclaadoor", sum := "f7b1543d80c2125f06a7d8540b1b066ea2461ee36cd8a90578b9a255813a9671", func := "given.example/pub-chandler/laws.FnLogString", spec := "fnLogString", unfollowed := true, recurses := true, named := ["unicode/utf8.first", "unicode/utf8.acceptRanges", "internal/strconv.uint64pow10", "math/bits.deBruijn32tab", "math/bits.deBruijn64tab", "strconv.ErrSyntax", "strconv.ErrRange"], apart := false, laid := [("math/bits.deBruijn32tab", laid_math_bits_deBruijn32tab), ("math/bits.deBruijn64tab", laid_math_bits_deBruijn64tab), ("internal/strconv.uint64pow10", laid_internal_strconv_uint64pow10), ("unicode/utf8.acceptRanges", laid_unicode_utf8_acceptRanges), ("strconv.ErrRange", laid_strconv_ErrRange), ("strconv.ErrSyntax", laid_strconv_ErrSyntax), ("unicode/utf8.first", laid_unicode_utf8_first)], narrowed := true }
def FnLogStringUptoSaid : Prop := fnLogStringUptoRow.holds Tryd.pinned (OpenSpec.upto fnLogStringSpec)

/-- 'laws.FnLogMoment', WHERE WHAT IT READS IS OF BULK AT MOST 1048576: true; the input reads as it did. -/
def fnLogMomentUptoRow : OpenClaim := { program := "ytdbnconphcaclaadoor", sum := "f7b1543d80c2125f06a7d8540b1b066ea2461ee36cd8a90578b9a255813a9671", func := "given.example/pub-chandler/laws.FnLogMoment", spec := "fnLogMoment", unfollowed := true, recurses := true, named := ["given.example/pub-chandler/pub/ztime.std0x", "given.example/pub-chandler/pub/ztime.longMonthNames", "given.example/pub-chandler/pub/ztime.longDayNames", "internal/strconv.uint64pow10", "math/bits.deBruijn32tab", "math/bits.deBruijn64tab", "strconv.ErrSyntax", "strconv.ErrRange"], apart := false, laid := [("math/bits.deBruijn32tab", laid_math_bits_deBruijn32tab), ("math/bits.deBruijn64tab", laid_math_bits_deBruijn64tab), ("given.example/pub-chandler/pub/ztime.std0x", laid_given_example_pub_chandler_pub_ztime_std0x), ("given.example/pub-chandler/pub/ztime.longDayNames", laid_given_example_pub_chandler_pub_ztime_longDayNames), ("given.example/pub-chandler/pub/ztime.longMonthNames", laid_given_example_pub_chandler_pub_ztime_longMonthNames), ("internal/strconv.uint64pow10", laid_internal_strconv_uint64pow10), ("strconv.ErrRange", laid_strconv_ErrRange), ("strconv.ErrSyntax", laid_strconv_ErrSyntax)], narrowed := true }
def FnLogMomentUptoSaid : Prop := fnLogMomentUptoRow.holds Tryd.pinned (OpenSpec.upto fnLogMomentSpec)

/-- 'laws.FnLogMulti', WHERE WHAT IT READS IS OF BULK AT MOST 1048576: true; the input reads as it did. -/
def fnLogMultiUptoRow : OpenClaim := { program := "ytdbnconphcaclaadoor", sum := "f7b1543d80c2125f06a7d8540b1b066ea2461ee36cd8a90578b9a255813a9671", func := "given.example/pub-chandler/laws.FnLogMulti", spec := "fnLogMulti", unfollowed := true, recurses := true, named := ["internal/strconv.uint64pow10", "math/bits.deBruijn32tab", "math/bits.deBruijn64tab", "strconv.ErrSyntax", "strconv.ErrRange"], apart := false, laid := [("math/bits.deBruijn32tab", laid_math_bits_deBruijn32tab), ("math/bits.deBruijn64tab", laid_math_bits_deBruijn64tab), ("internal/strconv.uint64pow10", laid_internal_strconv_uint64pow10), ("strconv.ErrRange", laid_strconv_ErrRange), ("strconv.ErrSyntax", laid_strconv_ErrSyntax)], narrowed := true }
def FnLogMultiUptoSaid : Prop := fnLogMultiUptoRow.holds Tryd.pinned (OpenSpec.upto fnLogMultiSpec)

/-- 'laws.FnLogTrigger', WHERE WHAT IT READS IS OF BULK AT MOST 1048576: true; the input reads as it did. -/
def fnLogTriggerUptoRow : OpenClaim := { program := "ytdbnconphcaclaadoor", sum := "f7b1543d80c2125f06a7d8540b1b066ea2461ee36cd8a90578b9a255813a9671", func := "given.example/pub-chandler/laws.FnLogTrigger", spec := "fnLogTrigger", inPlace := ["internal/bytealg.IndexByte", "internal/bytealg.IndexByteString"], unfollowed := true, recurses := true, named := ["bytes.ErrTooLarge", "internal/strconv.uint64pow10", "math/bits.deBruijn32tab", "math/bits.deBruijn64tab", "strconv.ErrSyntax", "strconv.ErrRange"], apart := false, laid := [("math/bits.deBruijn32tab", laid_math_bits_deBruijn32tab), ("math/bits.deBruijn64tab", laid_math_bits_deBruijn64tab), ("internal/strconv.uint64pow10", laid_internal_strconv_uint64pow10), ("strconv.ErrRange", laid_strconv_ErrRange), ("strconv.ErrSyntax", laid_strconv_ErrSyntax), ("bytes.ErrTooLarge", laid_bytes_ErrTooLarge)], narrowed := true }
def FnLogTriggerUptoSaid : Prop := fnLogTriggerUptoRow.holds Tryd.pinned (OpenSpec.upto fnLogTriggerSpec)

end Rows
end Go.Proofs.YtdbnconphcaclaaDoor
