/-
  NARROWER THAN 'FOR EVERY INPUT', by the rows' own cells (each row's printed sentence says how): FnZLevels: laid · FnZCallers: laid · FnZTextsParts: laid · FnZLevelBack: ifaces, laid · FnZNames: laid.
  DERIVED. THE GIVEN ROWS OF THIS SEAT. 5 by the template 'for every input the law returns true; each argument reads behind the call as it read before'; 0 by the template 'total and deterministic' (their statements: YtlnidnihhfjcpaaGreatDoorTotals.lean).
  GIVEN WITH THE SEED: the statements are not yours to turn. If you find one false, say at which input.
  Laid BY PROGRAM, IN A SANDBOX (cutbox-rows.mjs): the forced cells as the released guide's own fill.sh prints them over the translation facf7a4dcd94b985… (all of the seat's roots in one cut). By AI agents, Wed Nov 11 2026. No macro, syntax, notation, axiom, sorry.
-/
import Derived.Test.YtlnidnihhfjcpaaGreatDoorChecked
import GoSem.PinnedTables
import GoSem.Claim
import GoSem.ClaimJoined
import GoSem.ClaimMapViews
import Derived.JoinedTies
import Derived.KernelRfl
namespace Go.Proofs.YtlnidnihhfjcpaaGreatDoor
/- THE CELL 'sum', in the pinned program and in every row, IS THE sha256 OF THE DUMP (.gsa) THAT YtlnidnihhfjcpaaGreatDoorProg.lean LOADS. Nothing in Lean hashes anything: it is a label: what it is worth is what the hold of that sum in a sandbox is worth. -/
noncomputable def Tryz.pinned : Pinned := { name := "ytlnidnihhfjcpaagreatdoor", sum := "facf7a4dcd94b9856c502a96b2e07a9b763df68c521b79f743c9b4ca0d4b1c12", checked := Tryz.checked }
namespace Rows
def none {H : Type} : Left H := { results := [], args := [] }

/- WHAT THE LISTED PACKAGE-LEVEL VARIABLES READ AS WHEN THE CALL BEGINS. Each datum BY PROGRAM (the guide's laid-datum.mjs) off the statement by which the dump's own 'gosem.cut.vars' lays the variable. In a bare row this is a premise. The card (YtlnidnihhfjcpaaGreatDoorCards.lean) ties it to the program's text. -/
def laid_math_bits_deBruijn32tab {H : Type} : DataW H := .agg [.lit (.int .u8 0), .lit (.int .u8 1), .lit (.int .u8 28), .lit (.int .u8 2), .lit (.int .u8 29), .lit (.int .u8 14), .lit (.int .u8 24), .lit (.int .u8 3), .lit (.int .u8 30), .lit (.int .u8 22), .lit (.int .u8 20), .lit (.int .u8 15), .lit (.int .u8 25), .lit (.int .u8 17), .lit (.int .u8 4), .lit (.int .u8 8), .lit (.int .u8 31), .lit (.int .u8 27), .lit (.int .u8 13), .lit (.int .u8 23), .lit (.int .u8 21), .lit (.int .u8 19), .lit (.int .u8 16), .lit (.int .u8 7), .lit (.int .u8 26), .lit (.int .u8 12), .lit (.int .u8 18), .lit (.int .u8 6), .lit (.int .u8 11), .lit (.int .u8 5), .lit (.int .u8 10), .lit (.int .u8 9)]
def laid_math_bits_deBruijn64tab {H : Type} : DataW H := .agg [.lit (.int .u8 0), .lit (.int .u8 1), .lit (.int .u8 56), .lit (.int .u8 2), .lit (.int .u8 57), .lit (.int .u8 49), .lit (.int .u8 28), .lit (.int .u8 3), .lit (.int .u8 61), .lit (.int .u8 58), .lit (.int .u8 42), .lit (.int .u8 50), .lit (.int .u8 38), .lit (.int .u8 29), .lit (.int .u8 17), .lit (.int .u8 4), .lit (.int .u8 62), .lit (.int .u8 47), .lit (.int .u8 59), .lit (.int .u8 36), .lit (.int .u8 45), .lit (.int .u8 43), .lit (.int .u8 51), .lit (.int .u8 22), .lit (.int .u8 53), .lit (.int .u8 39), .lit (.int .u8 33), .lit (.int .u8 30), .lit (.int .u8 24), .lit (.int .u8 18), .lit (.int .u8 12), .lit (.int .u8 5), .lit (.int .u8 63), .lit (.int .u8 55), .lit (.int .u8 48), .lit (.int .u8 27), .lit (.int .u8 60), .lit (.int .u8 41), .lit (.int .u8 37), .lit (.int .u8 16), .lit (.int .u8 46), .lit (.int .u8 35), .lit (.int .u8 44), .lit (.int .u8 21), .lit (.int .u8 52), .lit (.int .u8 32), .lit (.int .u8 23), .lit (.int .u8 11), .lit (.int .u8 54), .lit (.int .u8 26), .lit (.int .u8 40), .lit (.int .u8 15), .lit (.int .u8 34), .lit (.int .u8 20), .lit (.int .u8 31), .lit (.int .u8 10), .lit (.int .u8 25), .lit (.int .u8 14), .lit (.int .u8 19), .lit (.int .u8 9), .lit (.int .u8 13), .lit (.int .u8 8), .lit (.int .u8 7), .lit (.int .u8 6)]
def laid_given_example_pub_chandler_pub_ztime_std0x {H : Type} : DataW H := .agg [.lit (.int .i64 260), .lit (.int .i64 265), .lit (.int .i64 1038), .lit (.int .i64 1040), .lit (.int .i64 1042), .lit (.int .i64 276)]
def laid_given_example_pub_chandler_pub_ztime_longDayNames {H : Type} : DataW H := .slice [.lit (.string [83, 117, 110, 100, 97, 121]), .lit (.string [77, 111, 110, 100, 97, 121]), .lit (.string [84, 117, 101, 115, 100, 97, 121]), .lit (.string [87, 101, 100, 110, 101, 115, 100, 97, 121]), .lit (.string [84, 104, 117, 114, 115, 100, 97, 121]), .lit (.string [70, 114, 105, 100, 97, 121]), .lit (.string [83, 97, 116, 117, 114, 100, 97, 121])] []
def laid_given_example_pub_chandler_pub_ztime_longMonthNames {H : Type} : DataW H := .slice [.lit (.string [74, 97, 110, 117, 97, 114, 121]), .lit (.string [70, 101, 98, 114, 117, 97, 114, 121]), .lit (.string [77, 97, 114, 99, 104]), .lit (.string [65, 112, 114, 105, 108]), .lit (.string [77, 97, 121]), .lit (.string [74, 117, 110, 101]), .lit (.string [74, 117, 108, 121]), .lit (.string [65, 117, 103, 117, 115, 116]), .lit (.string [83, 101, 112, 116, 101, 109, 98, 101, 114]), .lit (.string [79, 99, 116, 111, 98, 101, 114]), .lit (.string [78, 111, 118, 101, 109, 98, 101, 114]), .lit (.string [68, 101, 99, 101, 109, 98, 101, 114])] []
def laid_internal_strconv_uint64pow10 {H : Type} : DataW H := .agg [.lit (.int .u64 1), .lit (.int .u64 10), .lit (.int .u64 100), .lit (.int .u64 1000), .lit (.int .u64 10000), .lit (.int .u64 100000), .lit (.int .u64 1000000), .lit (.int .u64 10000000), .lit (.int .u64 100000000), .lit (.int .u64 1000000000), .lit (.int .u64 10000000000), .lit (.int .u64 100000000000), .lit (.int .u64 1000000000000), .lit (.int .u64 10000000000000), .lit (.int .u64 100000000000000), .lit (.int .u64 1000000000000000), .lit (.int .u64 10000000000000000), .lit (.int .u64 100000000000000000), .lit (.int .u64 1000000000000000000), .lit (.int .u64 10000000000000000000)]
def laid_unicode_utf8_acceptRanges {H : Type} : DataW H := .agg [.agg [.lit (.int .u8 128), .lit (.int .u8 191)], .agg [.lit (.int .u8 160), .lit (.int .u8 191)], .agg [.lit (.int .u8 128), .lit (.int .u8 159)], .agg [.lit (.int .u8 144), .lit (.int .u8 191)], .agg [.lit (.int .u8 128), .lit (.int .u8 143)], .agg [.lit (.int .u8 0), .lit (.int .u8 0)], .agg [.lit (.int .u8 0), .lit (.int .u8 0)], .agg [.lit (.int .u8 0), .lit (.int .u8 0)], .agg [.lit (.int .u8 0), .lit (.int .u8 0)], .agg [.lit (.int .u8 0), .lit (.int .u8 0)], .agg [.lit (.int .u8 0), .lit (.int .u8 0)], .agg [.lit (.int .u8 0), .lit (.int .u8 0)], .agg [.lit (.int .u8 0), .lit (.int .u8 0)], .agg [.lit (.int .u8 0), .lit (.int .u8 0)], .agg [.lit (.int .u8 0), .lit (.int .u8 0)], .agg [.lit (.int .u8 0), .lit (.int .u8 0)]]
/-- One of Go's own tables, pinned by name: the form's constant. -/
def laid_unicode_utf8_first : DataW Unit := Go.Pinned.utf8First
def laid_given_example_pub_chandler_pub_zap_zapcore_errUnmarshalNilLevel {H : Type} : DataW H := .iface "*errors.errorString" (.ptr (.agg [.lit (.string [99, 97, 110, 39, 116, 32, 117, 110, 109, 97, 114, 115, 104, 97, 108, 32, 97, 32, 110, 105, 108, 32, 42, 76, 101, 118, 101, 108])]))

/-- 'laws.FnZLevels': WHATEVER THE INPUT: true; the input reads as it did. -/
def fnZLevelsSpec : ChangeSpec := { name := "fnZLevels", vars := ["given.example/pub-chandler/pub/ztime.std0x", "given.example/pub-chandler/pub/ztime.longMonthNames", "given.example/pub-chandler/pub/ztime.longDayNames"], fn := fun _ => fun
  | [d1, d2, g1, g2, g3] => { results := [.lit (.bool true)], args := [d1, d2], vars := [g1, g2, g3] }
  | _ => none }
def fnZLevelsRow : OpenClaim := { program := "ytlnidnihhfjcpaagreatdoor", sum := "facf7a4dcd94b9856c502a96b2e07a9b763df68c521b79f743c9b4ca0d4b1c12", func := "given.example/pub-chandler/laws.FnZLevels", spec := "fnZLevels", unfollowed := true, recurses := true, named := ["internal/strconv.uint64pow10", "math/bits.deBruijn32tab", "math/bits.deBruijn64tab", "given.example/pub-chandler/pub/ztime.std0x", "given.example/pub-chandler/pub/ztime.longMonthNames", "given.example/pub-chandler/pub/ztime.longDayNames"], apart := false, laid := [("math/bits.deBruijn32tab", laid_math_bits_deBruijn32tab), ("math/bits.deBruijn64tab", laid_math_bits_deBruijn64tab), ("given.example/pub-chandler/pub/ztime.std0x", laid_given_example_pub_chandler_pub_ztime_std0x), ("given.example/pub-chandler/pub/ztime.longDayNames", laid_given_example_pub_chandler_pub_ztime_longDayNames), ("given.example/pub-chandler/pub/ztime.longMonthNames", laid_given_example_pub_chandler_pub_ztime_longMonthNames), ("internal/strconv.uint64pow10", laid_internal_strconv_uint64pow10)] }
def FnZLevelsSaid : Prop := fnZLevelsRow.holds Tryz.pinned (OpenSpec.ofChange fnZLevelsSpec)

/-- ITS FALSE NEIGHBOUR: 'it returns false'. Refute it at one input. -/
def fnZLevelsWrong : ChangeSpec := { name := "fnZLevels", vars := ["given.example/pub-chandler/pub/ztime.std0x", "given.example/pub-chandler/pub/ztime.longMonthNames", "given.example/pub-chandler/pub/ztime.longDayNames"], fn := fun _ => fun
  | [d1, d2, g1, g2, g3] => { results := [.lit (.bool false)], args := [d1, d2], vars := [g1, g2, g3] }
  | _ => none }
def FnZLevelsWrongFalsely : Prop := fnZLevelsRow.holds Tryz.pinned (OpenSpec.ofChange fnZLevelsWrong)

/-- 'laws.FnZCallers': WHATEVER THE INPUT: true; the input reads as it did. -/
def fnZCallersSpec : ChangeSpec := { name := "fnZCallers", vars := ["given.example/pub-chandler/pub/ztime.std0x", "given.example/pub-chandler/pub/ztime.longMonthNames", "given.example/pub-chandler/pub/ztime.longDayNames"], fn := fun _ => fun
  | [d1, d2, g1, g2, g3] => { results := [.lit (.bool true)], args := [d1, d2], vars := [g1, g2, g3] }
  | _ => none }
def fnZCallersRow : OpenClaim := { program := "ytlnidnihhfjcpaagreatdoor", sum := "facf7a4dcd94b9856c502a96b2e07a9b763df68c521b79f743c9b4ca0d4b1c12", func := "given.example/pub-chandler/laws.FnZCallers", spec := "fnZCallers", unfollowed := true, recurses := true, named := ["internal/strconv.uint64pow10", "math/bits.deBruijn32tab", "math/bits.deBruijn64tab", "given.example/pub-chandler/pub/ztime.std0x", "given.example/pub-chandler/pub/ztime.longMonthNames", "given.example/pub-chandler/pub/ztime.longDayNames"], apart := false, laid := [("math/bits.deBruijn32tab", laid_math_bits_deBruijn32tab), ("math/bits.deBruijn64tab", laid_math_bits_deBruijn64tab), ("given.example/pub-chandler/pub/ztime.std0x", laid_given_example_pub_chandler_pub_ztime_std0x), ("given.example/pub-chandler/pub/ztime.longDayNames", laid_given_example_pub_chandler_pub_ztime_longDayNames), ("given.example/pub-chandler/pub/ztime.longMonthNames", laid_given_example_pub_chandler_pub_ztime_longMonthNames), ("internal/strconv.uint64pow10", laid_internal_strconv_uint64pow10)] }
def FnZCallersSaid : Prop := fnZCallersRow.holds Tryz.pinned (OpenSpec.ofChange fnZCallersSpec)

/-- ITS FALSE NEIGHBOUR: 'it returns false'. Refute it at one input. -/
def fnZCallersWrong : ChangeSpec := { name := "fnZCallers", vars := ["given.example/pub-chandler/pub/ztime.std0x", "given.example/pub-chandler/pub/ztime.longMonthNames", "given.example/pub-chandler/pub/ztime.longDayNames"], fn := fun _ => fun
  | [d1, d2, g1, g2, g3] => { results := [.lit (.bool false)], args := [d1, d2], vars := [g1, g2, g3] }
  | _ => none }
def FnZCallersWrongFalsely : Prop := fnZCallersRow.holds Tryz.pinned (OpenSpec.ofChange fnZCallersWrong)

/-- 'laws.FnZTextsParts': WHATEVER THE INPUT: true; the input reads as it did. -/
def fnZTextsPartsSpec : ChangeSpec := { name := "fnZTextsParts", vars := ["given.example/pub-chandler/pub/ztime.std0x", "given.example/pub-chandler/pub/ztime.longMonthNames", "given.example/pub-chandler/pub/ztime.longDayNames"], fn := fun _ => fun
  | [d1, d2, g1, g2, g3] => { results := [.lit (.bool true)], args := [d1, d2], vars := [g1, g2, g3] }
  | _ => none }
def fnZTextsPartsRow : OpenClaim := { program := "ytlnidnihhfjcpaagreatdoor", sum := "facf7a4dcd94b9856c502a96b2e07a9b763df68c521b79f743c9b4ca0d4b1c12", func := "given.example/pub-chandler/laws.FnZTextsParts", spec := "fnZTextsParts", unfollowed := true, recurses := true, named := ["unicode/utf8.first", "unicode/utf8.acceptRanges", "internal/strconv.uint64pow10", "math/bits.deBruijn32tab", "math/bits.deBruijn64tab", "given.example/pub-chandler/pub/ztime.std0x", "given.example/pub-chandler/pub/ztime.longMonthNames", "given.example/pub-chandler/pub/ztime.longDayNames"], apart := false, laid := [("math/bits.deBruijn32tab", laid_math_bits_deBruijn32tab), ("math/bits.deBruijn64tab", laid_math_bits_deBruijn64tab), ("given.example/pub-chandler/pub/ztime.std0x", laid_given_example_pub_chandler_pub_ztime_std0x), ("given.example/pub-chandler/pub/ztime.longDayNames", laid_given_example_pub_chandler_pub_ztime_longDayNames), ("given.example/pub-chandler/pub/ztime.longMonthNames", laid_given_example_pub_chandler_pub_ztime_longMonthNames), ("internal/strconv.uint64pow10", laid_internal_strconv_uint64pow10), ("unicode/utf8.acceptRanges", laid_unicode_utf8_acceptRanges), ("unicode/utf8.first", laid_unicode_utf8_first)] }
def FnZTextsPartsSaid : Prop := fnZTextsPartsRow.holds Tryz.pinned (OpenSpec.ofChange fnZTextsPartsSpec)

/-- ITS FALSE NEIGHBOUR: 'it returns false'. Refute it at one input. -/
def fnZTextsPartsWrong : ChangeSpec := { name := "fnZTextsParts", vars := ["given.example/pub-chandler/pub/ztime.std0x", "given.example/pub-chandler/pub/ztime.longMonthNames", "given.example/pub-chandler/pub/ztime.longDayNames"], fn := fun _ => fun
  | [d1, d2, g1, g2, g3] => { results := [.lit (.bool false)], args := [d1, d2], vars := [g1, g2, g3] }
  | _ => none }
def FnZTextsPartsWrongFalsely : Prop := fnZTextsPartsRow.holds Tryz.pinned (OpenSpec.ofChange fnZTextsPartsWrong)

/-- 'laws.FnZLevelBack': WHATEVER THE INPUT: true; the input reads as it did. -/
def fnZLevelBackSpec : ChangeSpec := { name := "fnZLevelBack", vars := ["given.example/pub-chandler/pub/ztime.std0x", "given.example/pub-chandler/pub/ztime.longMonthNames", "given.example/pub-chandler/pub/ztime.longDayNames", "given.example/pub-chandler/pub/zap/zapcore.errUnmarshalNilLevel"], fn := fun _ => fun
  | [d1, d2, d3, g1, g2, g3, g4] => { results := [.lit (.bool true)], args := [d1, d2, d3], vars := [g1, g2, g3, g4] }
  | _ => none }
def fnZLevelBackRow : OpenClaim := { program := "ytlnidnihhfjcpaagreatdoor", sum := "facf7a4dcd94b9856c502a96b2e07a9b763df68c521b79f743c9b4ca0d4b1c12", func := "given.example/pub-chandler/laws.FnZLevelBack", spec := "fnZLevelBack", unfollowed := true, recurses := true, named := ["internal/strconv.uint64pow10", "math/bits.deBruijn32tab", "math/bits.deBruijn64tab", "given.example/pub-chandler/pub/ztime.std0x", "given.example/pub-chandler/pub/ztime.longMonthNames", "given.example/pub-chandler/pub/ztime.longDayNames", "given.example/pub-chandler/pub/zap/zapcore.errUnmarshalNilLevel"], ifaces := true, apart := false, laid := [("math/bits.deBruijn32tab", laid_math_bits_deBruijn32tab), ("math/bits.deBruijn64tab", laid_math_bits_deBruijn64tab), ("given.example/pub-chandler/pub/ztime.std0x", laid_given_example_pub_chandler_pub_ztime_std0x), ("given.example/pub-chandler/pub/ztime.longDayNames", laid_given_example_pub_chandler_pub_ztime_longDayNames), ("given.example/pub-chandler/pub/ztime.longMonthNames", laid_given_example_pub_chandler_pub_ztime_longMonthNames), ("internal/strconv.uint64pow10", laid_internal_strconv_uint64pow10), ("given.example/pub-chandler/pub/zap/zapcore.errUnmarshalNilLevel", laid_given_example_pub_chandler_pub_zap_zapcore_errUnmarshalNilLevel)] }
def FnZLevelBackSaid : Prop := fnZLevelBackRow.holds Tryz.pinned (OpenSpec.ofChange fnZLevelBackSpec)

/-- ITS FALSE NEIGHBOUR: 'it returns false'. Refute it at one input. -/
def fnZLevelBackWrong : ChangeSpec := { name := "fnZLevelBack", vars := ["given.example/pub-chandler/pub/ztime.std0x", "given.example/pub-chandler/pub/ztime.longMonthNames", "given.example/pub-chandler/pub/ztime.longDayNames", "given.example/pub-chandler/pub/zap/zapcore.errUnmarshalNilLevel"], fn := fun _ => fun
  | [d1, d2, d3, g1, g2, g3, g4] => { results := [.lit (.bool false)], args := [d1, d2, d3], vars := [g1, g2, g3, g4] }
  | _ => none }
def FnZLevelBackWrongFalsely : Prop := fnZLevelBackRow.holds Tryz.pinned (OpenSpec.ofChange fnZLevelBackWrong)

/-- 'laws.FnZNames': WHATEVER THE INPUT: true; the input reads as it did. -/
def fnZNamesSpec : ChangeSpec := { name := "fnZNames", vars := ["given.example/pub-chandler/pub/ztime.std0x", "given.example/pub-chandler/pub/ztime.longMonthNames", "given.example/pub-chandler/pub/ztime.longDayNames"], fn := fun _ => fun
  | [d1, d2, d3, d4, d5, g1, g2, g3] => { results := [.lit (.bool true)], args := [d1, d2, d3, d4, d5], vars := [g1, g2, g3] }
  | _ => none }
def fnZNamesRow : OpenClaim := { program := "ytlnidnihhfjcpaagreatdoor", sum := "facf7a4dcd94b9856c502a96b2e07a9b763df68c521b79f743c9b4ca0d4b1c12", func := "given.example/pub-chandler/laws.FnZNames", spec := "fnZNames", unfollowed := true, recurses := true, named := ["internal/strconv.uint64pow10", "math/bits.deBruijn32tab", "math/bits.deBruijn64tab", "given.example/pub-chandler/pub/ztime.std0x", "given.example/pub-chandler/pub/ztime.longMonthNames", "given.example/pub-chandler/pub/ztime.longDayNames"], apart := false, laid := [("math/bits.deBruijn32tab", laid_math_bits_deBruijn32tab), ("math/bits.deBruijn64tab", laid_math_bits_deBruijn64tab), ("given.example/pub-chandler/pub/ztime.std0x", laid_given_example_pub_chandler_pub_ztime_std0x), ("given.example/pub-chandler/pub/ztime.longDayNames", laid_given_example_pub_chandler_pub_ztime_longDayNames), ("given.example/pub-chandler/pub/ztime.longMonthNames", laid_given_example_pub_chandler_pub_ztime_longMonthNames), ("internal/strconv.uint64pow10", laid_internal_strconv_uint64pow10)] }
def FnZNamesSaid : Prop := fnZNamesRow.holds Tryz.pinned (OpenSpec.ofChange fnZNamesSpec)

/-- ITS FALSE NEIGHBOUR: 'it returns false'. Refute it at one input. -/
def fnZNamesWrong : ChangeSpec := { name := "fnZNames", vars := ["given.example/pub-chandler/pub/ztime.std0x", "given.example/pub-chandler/pub/ztime.longMonthNames", "given.example/pub-chandler/pub/ztime.longDayNames"], fn := fun _ => fun
  | [d1, d2, d3, d4, d5, g1, g2, g3] => { results := [.lit (.bool false)], args := [d1, d2, d3, d4, d5], vars := [g1, g2, g3] }
  | _ => none }
def FnZNamesWrongFalsely : Prop := fnZNamesRow.holds Tryz.pinned (OpenSpec.ofChange fnZNamesWrong)

/- THE SECOND FORM. 'bulk': how many values and letters a reading holds, each counted each time it is reached (what is shared counts as often as it is met; a slice's spare places count too). A statement '..UptoSaid' is the law's where the arguments, and the package variables that the reading takes, are together of bulk at most 1048576: NARROWER than '..Said'. Prove '..Said' where nothing that the law and all that it calls make is longer than what came in: it says more and counts as full. Else prove '..UptoSaid'. A law counts once. -/
mutual
def uptoBulk {H : Type} : DataW H → Nat
  | .lit (.string bytes) => bytes.length + 1
  | .lit _ => 1
  | .nil => 1
  | .ptr d => uptoBulk d + 1
  | .slice elems spare => uptoBulkAll elems + uptoBulkAll spare + 1
  | .agg parts => uptoBulkAll parts + 1
  | .iface _ d => uptoBulk d + 1
  | .map entries => uptoBulkEntries entries + 1
  | .held _ => 1
def uptoBulkAll {H : Type} : List (DataW H) → Nat
  | [] => 0
  | d :: r => uptoBulk d + uptoBulkAll r
def uptoBulkEntries {H : Type} : List (Lit × DataW H) → Nat
  | [] => 0
  | x :: r => uptoBulkEntry x + uptoBulkEntries r
def uptoBulkEntry {H : Type} : Lit × DataW H → Nat
  | (.string bytes, d) => bytes.length + uptoBulk d + 1
  | (_, d) => uptoBulk d + 1
 end
def uptoSmall : (H : Type) → List (DataW H) → Bool := fun _ ds => decide (uptoBulkAll ds ≤ 1048576)
def OpenSpec.upto (s : _root_.Go.ChangeSpec) : _root_.Go.OpenSpec := { _root_.Go.OpenSpec.ofChange s with cond := some uptoSmall }

/-- 'laws.FnZLevels', WHERE WHAT IT READS IS OF BULK AT MOST 1048576: true; the input reads as it did. -/
def fnZLevelsUptoRow : OpenClaim := { program := "ytlnidnihhfjcpaagreatdoor", sum := "facf7a4dcd94b9856c502a96b2e07a9b763df68c521b79f743c9b4ca0d4b1c12", func := "given.example/pub-chandler/laws.FnZLevels", spec := "fnZLevels", unfollowed := true, recurses := true, named := ["internal/strconv.uint64pow10", "math/bits.deBruijn32tab", "math/bits.deBruijn64tab", "given.example/pub-chandler/pub/ztime.std0x", "given.example/pub-chandler/pub/ztime.longMonthNames", "given.example/pub-chandler/pub/ztime.longDayNames"], apart := false, laid := [("math/bits.deBruijn32tab", laid_math_bits_deBruijn32tab), ("math/bits.deBruijn64tab", laid_math_bits_deBruijn64tab), ("given.example/pub-chandler/pub/ztime.std0x", laid_given_example_pub_chandler_pub_ztime_std0x), ("given.example/pub-chandler/pub/ztime.longDayNames", laid_given_example_pub_chandler_pub_ztime_longDayNames), ("given.example/pub-chandler/pub/ztime.longMonthNames", laid_given_example_pub_chandler_pub_ztime_longMonthNames), ("internal/strconv.uint64pow10", laid_internal_strconv_uint64pow10)], narrowed := true }
def FnZLevelsUptoSaid : Prop := fnZLevelsUptoRow.holds Tryz.pinned (OpenSpec.upto fnZLevelsSpec)

/-- 'laws.FnZCallers', WHERE WHAT IT READS IS OF BULK AT MOST 1048576: true; the input reads as it did. -/
def fnZCallersUptoRow : OpenClaim := { program := "ytlnidnihhfjcpaagreatdoor", sum := "facf7a4dcd94b9856c502a96b2e07a9b763df68c521b79f743c9b4ca0d4b1c12", func := "given.example/pub-chandler/laws.FnZCallers", spec := "fnZCallers", unfollowed := true, recurses := true, named := ["internal/strconv.uint64pow10", "math/bits.deBruijn32tab", "math/bits.deBruijn64tab", "given.example/pub-chandler/pub/ztime.std0x", "given.example/pub-chandler/pub/ztime.longMonthNames", "given.example/pub-chandler/pub/ztime.longDayNames"], apart := false, laid := [("math/bits.deBruijn32tab", laid_math_bits_deBruijn32tab), ("math/bits.deBruijn64tab", laid_math_bits_deBruijn64tab), ("given.example/pub-chandler/pub/ztime.std0x", laid_given_example_pub_chandler_pub_ztime_std0x), ("given.example/pub-chandler/pub/ztime.longDayNames", laid_given_example_pub_chandler_pub_ztime_longDayNames), ("given.example/pub-chandler/pub/ztime.longMonthNames", laid_given_example_pub_chandler_pub_ztime_longMonthNames), ("internal/strconv.uint64pow10", laid_internal_strconv_uint64pow10)], narrowed := true }
def FnZCallersUptoSaid : Prop := fnZCallersUptoRow.holds Tryz.pinned (OpenSpec.upto fnZCallersSpec)

/-- 'laws.FnZTextsParts', WHERE WHAT IT READS IS OF BULK AT MOST 1048576: true; the input reads as it did. -/
def fnZTextsPartsUptoRow : OpenClaim := { program := "ytlnidnihhfjcpaagreatdoor", sum := "facf7a4dcd94b9856c502a96b2e07a9b763df68c521b79f743c9b4ca0d4b1c12", func := "given.example/pub-chandler/laws.FnZTextsParts", spec := "fnZTextsParts", unfollowed := true, recurses := true, named := ["unicode/utf8.first", "unicode/utf8.acceptRanges", "internal/strconv.uint64pow10", "math/bits.deBruijn32tab", "math/bits.deBruijn64tab", "given.example/pub-chandler/pub/ztime.std0x", "given.example/pub-chandler/pub/ztime.longMonthNames", "given.example/pub-chandler/pub/ztime.longDayNames"], apart := false, laid := [("math/bits.deBruijn32tab", laid_math_bits_deBruijn32tab), ("math/bits.deBruijn64tab", laid_math_bits_deBruijn64tab), ("given.example/pub-chandler/pub/ztime.std0x", laid_given_example_pub_chandler_pub_ztime_std0x), ("given.example/pub-chandler/pub/ztime.longDayNames", laid_given_example_pub_chandler_pub_ztime_longDayNames), ("given.example/pub-chandler/pub/ztime.longMonthNames", laid_given_example_pub_chandler_pub_ztime_longMonthNames), ("internal/strconv.uint64pow10", laid_internal_strconv_uint64pow10), ("unicode/utf8.acceptRanges", laid_unicode_utf8_acceptRanges), ("unicode/utf8.first", laid_unicode_utf8_first)], narrowed := true }
def FnZTextsPartsUptoSaid : Prop := fnZTextsPartsUptoRow.holds Tryz.pinned (OpenSpec.upto fnZTextsPartsSpec)

/-- 'laws.FnZLevelBack', WHERE WHAT IT READS IS OF BULK AT MOST 1048576: true; the input reads as it did. -/
def fnZLevelBackUptoRow : OpenClaim := { program := "ytlnidnihhfjcpaagreatdoor", sum := "facf7a4dcd94b9856c502a96b2e07a9b763df68c521b79f743c9b4ca0d4b1c12", func := "given.example/pub-chandler/laws.FnZLevelBack", spec := "fnZLevelBack", unfollowed := true, recurses := true, named := ["internal/strconv.uint64pow10", "math/bits.deBruijn32tab", "math/bits.deBruijn64tab", "given.example/pub-chandler/pub/ztime.std0x", "given.example/pub-chandler/pub/ztime.longMonthNames", "given.example/pub-chandler/pub/ztime.longDayNames", "given.example/pub-chandler/pub/zap/zapcore.errUnmarshalNilLevel"], ifaces := true, apart := false, laid := [("math/bits.deBruijn32tab", laid_math_bits_deBruijn32tab), ("math/bits.deBruijn64tab", laid_math_bits_deBruijn64tab), ("given.example/pub-chandler/pub/ztime.std0x", laid_given_example_pub_chandler_pub_ztime_std0x), ("given.example/pub-chandler/pub/ztime.longDayNames", laid_given_example_pub_chandler_pub_ztime_longDayNames), ("given.example/pub-chandler/pub/ztime.longMonthNames", laid_given_example_pub_chandler_pub_ztime_longMonthNames), ("internal/strconv.uint64pow10", laid_internal_strconv_uint64pow10), ("given.example/pub-chandler/pub/zap/zapcore.errUnmarshalNilLevel", laid_given_example_pub_chandler_pub_zap_zapcore_errUnmarshalNilLevel)], narrowed := true }
def FnZLevelBackUptoSaid : Prop := fnZLevelBackUptoRow.holds Tryz.pinned (OpenSpec.upto fnZLevelBackSpec)

/-- 'laws.FnZNames', WHERE WHAT IT READS IS OF BULK AT MOST 1048576: true; the input reads as it did. -/
def fnZNamesUptoRow : OpenClaim := { program := "ytlnidnihhfjcpaagreatdoor", sum := "facf7a4dcd94b9856c502a96b2e07a9b763df68c521b79f743c9b4ca0d4b1c12", func := "given.example/pub-chandler/laws.FnZNames", spec := "fnZNames", unfollowed := true, recurses := true, named := ["internal/strconv.uint64pow10", "math/bits.deBruijn32tab", "math/bits.deBruijn64tab", "given.example/pub-chandler/pub/ztime.std0x", "given.example/pub-chandler/pub/ztime.longMonthNames", "given.example/pub-chandler/pub/ztime.longDayNames"], apart := false, laid := [("math/bits.deBruijn32tab", laid_math_bits_deBruijn32tab), ("math/bits.deBruijn64tab", laid_math_bits_deBruijn64tab), ("given.example/pub-chandler/pub/ztime.std0x", laid_given_example_pub_chandler_pub_ztime_std0x), ("given.example/pub-chandler/pub/ztime.longDayNames", laid_given_example_pub_chandler_pub_ztime_longDayNames), ("given.example/pub-chandler/pub/ztime.longMonthNames", laid_given_example_pub_chandler_pub_ztime_longMonthNames), ("internal/strconv.uint64pow10", laid_internal_strconv_uint64pow10)], narrowed := true }
def FnZNamesUptoSaid : Prop := fnZNamesUptoRow.holds Tryz.pinned (OpenSpec.upto fnZNamesSpec)

end Rows
end Go.Proofs.YtlnidnihhfjcpaaGreatDoor
