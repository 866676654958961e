/-
  DERIVED. GIVEN WITH THE SEED: THE PROGRAM's TIES (one call each: nine closed facts by the kernel) AND EACH ROW's TIE, after the 31st guide's Derived/Test/Toyas{Tie, Card}.lean. No idea stands in it: it is a product of the set-up. Laid BY PROGRAM, IN A SANDBOX (cutbox-door.mjs). By AI agents, Wed Nov 11 2026. No macro, syntax, notation, axiom, sorry.
-/
import Derived.Test.YtlnidnihhfjcpaaGreatDoorRows
import Derived.LaidByTextLater
import Derived.SevenTiedAt
import Derived.LaidSub
import Derived.LaidOnce
namespace Go.Proofs.YtlnidnihhfjcpaaGreatDoor
open Go
set_option maxRecDepth 100000
theorem seatTie1 : Tryz.prog.laidByTextLater [("math/bits.deBruijn32tab", Rows.laid_math_bits_deBruijn32tab), ("math/bits.deBruijn64tab", Rows.laid_math_bits_deBruijn64tab), ("given.example/pub-chandler/pub/ztime.std0x", Rows.laid_given_example_pub_chandler_pub_ztime_std0x), ("given.example/pub-chandler/pub/ztime.longDayNames", Rows.laid_given_example_pub_chandler_pub_ztime_longDayNames), ("given.example/pub-chandler/pub/ztime.longMonthNames", Rows.laid_given_example_pub_chandler_pub_ztime_longMonthNames), ("internal/strconv.uint64pow10", Rows.laid_internal_strconv_uint64pow10), ("unicode/utf8.acceptRanges", Rows.laid_unicode_utf8_acceptRanges), ("given.example/pub-chandler/pub/zap/zapcore.errUnmarshalNilLevel", Rows.laid_given_example_pub_chandler_pub_zap_zapcore_errUnmarshalNilLevel)] [.data, .data, .data, .data, .data, .data, .data, .sentinel] true :=
  Program.laidByTextLater_by_one 72 8 65 (by kernel_rfl) (by kernel_rfl) (by kernel_rfl) (by kernel_rfl) (by kernel_rfl) (by kernel_rfl) (fun _ _ => by kernel_rfl)
theorem pin_laid_unicode_utf8_first : Tryz.pinned.checked.prog.pinnedFits "unicode/utf8.first" = true := by kernel_rfl
theorem noOwnUnsafe : Tryz.pinned.checked.prog.headLifts.contains "ownunsafe" = false := by kernel_rfl
theorem tie : Tryz.prog.laidByTextLater [("math/bits.deBruijn32tab", Rows.laid_math_bits_deBruijn32tab), ("math/bits.deBruijn64tab", Rows.laid_math_bits_deBruijn64tab), ("given.example/pub-chandler/pub/ztime.std0x", Rows.laid_given_example_pub_chandler_pub_ztime_std0x), ("given.example/pub-chandler/pub/ztime.longDayNames", Rows.laid_given_example_pub_chandler_pub_ztime_longDayNames), ("given.example/pub-chandler/pub/ztime.longMonthNames", Rows.laid_given_example_pub_chandler_pub_ztime_longMonthNames), ("internal/strconv.uint64pow10", Rows.laid_internal_strconv_uint64pow10)] [.data, .data, .data, .data, .data, .data] true :=
  Program.laidByTextLater.sub seatTie1 ["math/bits.deBruijn32tab", "math/bits.deBruijn64tab", "given.example/pub-chandler/pub/ztime.std0x", "given.example/pub-chandler/pub/ztime.longDayNames", "given.example/pub-chandler/pub/ztime.longMonthNames", "internal/strconv.uint64pow10"] (by kernel_rfl) (by kernel_rfl)
theorem fnZLevels_row_tie : Rows.fnZLevelsRow.laidByTextAt .later Tryz.pinned [.data, .data, .data, .data, .data, .data] true :=
  OpenClaim.laidByTextAt_later rfl rfl tie noOwnUnsafe
theorem fnZCallers_row_tie : Rows.fnZCallersRow.laidByTextAt .later Tryz.pinned [.data, .data, .data, .data, .data, .data] true :=
  OpenClaim.laidByTextAt_later rfl rfl tie noOwnUnsafe
theorem fnZNames_row_tie : Rows.fnZNamesRow.laidByTextAt .later Tryz.pinned [.data, .data, .data, .data, .data, .data] true :=
  OpenClaim.laidByTextAt_later rfl rfl tie noOwnUnsafe
theorem fits2 : Tryz.pinned.checked.prog.listedFits [("math/bits.deBruijn32tab", Rows.laid_math_bits_deBruijn32tab), ("math/bits.deBruijn64tab", Rows.laid_math_bits_deBruijn64tab), ("given.example/pub-chandler/pub/ztime.std0x", Rows.laid_given_example_pub_chandler_pub_ztime_std0x), ("given.example/pub-chandler/pub/ztime.longDayNames", Rows.laid_given_example_pub_chandler_pub_ztime_longDayNames), ("given.example/pub-chandler/pub/ztime.longMonthNames", Rows.laid_given_example_pub_chandler_pub_ztime_longMonthNames), ("internal/strconv.uint64pow10", Rows.laid_internal_strconv_uint64pow10), ("unicode/utf8.acceptRanges", Rows.laid_unicode_utf8_acceptRanges), ("unicode/utf8.first", Rows.laid_unicode_utf8_first)] = true := by
  unfold Program.listedFits
  rw [noOwnUnsafe]
  kernel_rfl
theorem tie2 : Tryz.prog.laidByTextLater [("math/bits.deBruijn32tab", Rows.laid_math_bits_deBruijn32tab), ("math/bits.deBruijn64tab", Rows.laid_math_bits_deBruijn64tab), ("given.example/pub-chandler/pub/ztime.std0x", Rows.laid_given_example_pub_chandler_pub_ztime_std0x), ("given.example/pub-chandler/pub/ztime.longDayNames", Rows.laid_given_example_pub_chandler_pub_ztime_longDayNames), ("given.example/pub-chandler/pub/ztime.longMonthNames", Rows.laid_given_example_pub_chandler_pub_ztime_longMonthNames), ("internal/strconv.uint64pow10", Rows.laid_internal_strconv_uint64pow10), ("unicode/utf8.acceptRanges", Rows.laid_unicode_utf8_acceptRanges)] [.data, .data, .data, .data, .data, .data, .data] true :=
  Program.laidByTextLater.sub seatTie1 ["math/bits.deBruijn32tab", "math/bits.deBruijn64tab", "given.example/pub-chandler/pub/ztime.std0x", "given.example/pub-chandler/pub/ztime.longDayNames", "given.example/pub-chandler/pub/ztime.longMonthNames", "internal/strconv.uint64pow10", "unicode/utf8.acceptRanges"] (by kernel_rfl) (by kernel_rfl)
theorem fnZTextsParts_row_tie : Rows.fnZTextsPartsRow.laidByTextAt .later Tryz.pinned [.data, .data, .data, .data, .data, .data, .data, .pinned] true :=
  OpenClaim.laidByTextAt_pinned rfl rfl tie2 rfl rfl rfl rfl (fun y hy _e => by
    simp only [Rows.fnZTextsPartsRow, List.zip_cons_cons, List.zip_nil_right, List.mem_cons, List.mem_nil_iff, or_false] at hy
    rcases hy with rfl | rfl | rfl | rfl | rfl | rfl | rfl | rfl
    · cases _e
    · cases _e
    · cases _e
    · cases _e
    · cases _e
    · cases _e
    · cases _e
    · exact ⟨pin_laid_unicode_utf8_first, by kernel_rfl⟩) fits2
theorem tie3 : Tryz.prog.laidByTextLater [("math/bits.deBruijn32tab", Rows.laid_math_bits_deBruijn32tab), ("math/bits.deBruijn64tab", Rows.laid_math_bits_deBruijn64tab), ("given.example/pub-chandler/pub/ztime.std0x", Rows.laid_given_example_pub_chandler_pub_ztime_std0x), ("given.example/pub-chandler/pub/ztime.longDayNames", Rows.laid_given_example_pub_chandler_pub_ztime_longDayNames), ("given.example/pub-chandler/pub/ztime.longMonthNames", Rows.laid_given_example_pub_chandler_pub_ztime_longMonthNames), ("internal/strconv.uint64pow10", Rows.laid_internal_strconv_uint64pow10), ("given.example/pub-chandler/pub/zap/zapcore.errUnmarshalNilLevel", Rows.laid_given_example_pub_chandler_pub_zap_zapcore_errUnmarshalNilLevel)] [.data, .data, .data, .data, .data, .data, .sentinel] true :=
  Program.laidByTextLater.sub seatTie1 ["math/bits.deBruijn32tab", "math/bits.deBruijn64tab", "given.example/pub-chandler/pub/ztime.std0x", "given.example/pub-chandler/pub/ztime.longDayNames", "given.example/pub-chandler/pub/ztime.longMonthNames", "internal/strconv.uint64pow10", "given.example/pub-chandler/pub/zap/zapcore.errUnmarshalNilLevel"] (by kernel_rfl) (by kernel_rfl)
theorem fnZLevelBack_row_tie : Rows.fnZLevelBackRow.laidByTextAt .later Tryz.pinned [.data, .data, .data, .data, .data, .data, .sentinel] true :=
  OpenClaim.laidByTextAt_later rfl rfl tie3 noOwnUnsafe
theorem fnZLevelsUpto_row_tie : Rows.fnZLevelsUptoRow.laidByTextAt .later Tryz.pinned [.data, .data, .data, .data, .data, .data] true :=
  OpenClaim.laidByTextAt_later rfl rfl tie noOwnUnsafe
theorem fnZCallersUpto_row_tie : Rows.fnZCallersUptoRow.laidByTextAt .later Tryz.pinned [.data, .data, .data, .data, .data, .data] true :=
  OpenClaim.laidByTextAt_later rfl rfl tie noOwnUnsafe
theorem fnZTextsPartsUpto_row_tie : Rows.fnZTextsPartsUptoRow.laidByTextAt .later Tryz.pinned [.data, .data, .data, .data, .data, .data, .data, .pinned] true :=
  OpenClaim.laidByTextAt_pinned rfl rfl tie2 rfl rfl rfl rfl (fun y hy _e => by
    simp only [Rows.fnZTextsPartsUptoRow, List.zip_cons_cons, List.zip_nil_right, List.mem_cons, List.mem_nil_iff, or_false] at hy
    rcases hy with rfl | rfl | rfl | rfl | rfl | rfl | rfl | rfl
    · cases _e
    · cases _e
    · cases _e
    · cases _e
    · cases _e
    · cases _e
    · cases _e
    · exact ⟨pin_laid_unicode_utf8_first, by kernel_rfl⟩) fits2
theorem fnZLevelBackUpto_row_tie : Rows.fnZLevelBackUptoRow.laidByTextAt .later Tryz.pinned [.data, .data, .data, .data, .data, .data, .sentinel] true :=
  OpenClaim.laidByTextAt_later rfl rfl tie3 noOwnUnsafe
theorem fnZNamesUpto_row_tie : Rows.fnZNamesUptoRow.laidByTextAt .later Tryz.pinned [.data, .data, .data, .data, .data, .data] true :=
  OpenClaim.laidByTextAt_later rfl rfl tie noOwnUnsafe
end Go.Proofs.YtlnidnihhfjcpaaGreatDoor
