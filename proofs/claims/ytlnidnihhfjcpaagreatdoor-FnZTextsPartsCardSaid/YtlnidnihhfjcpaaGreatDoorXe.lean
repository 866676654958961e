/- From a row's list of variables to the fact that UTF-8's two tables hold their numbers. -/
import Derived.Test.YtlnidnihhfjcpaaGreatDoorXa
import Derived.Test.YtlnidnihhfjcpaaGreatDoorWp
import Derived.PinnedBridge
namespace Go.Proofs.YtlnidnihhfjcpaaGreatDoor
open Go.RowKit

theorem utfX : U8Extra Tryz.prog Tryz.lays260_ren := ⟨by kernel_rfl, by kernel_rfl, by kernel_rfl, by kernel_rfl, by kernel_rfl, by kernel_rfl, by kernel_rfl⟩
theorem acceptIs : (Rows.laid_unicode_utf8_acceptRanges : DataW Unit) = Lib.acceptData := by kernel_rfl

theorem utab_of_laid {l : List (String × DataW Unit)} {W : World} (h1 : ("unicode/utf8.first", Rows.laid_unicode_utf8_first) ∈ l) (h2 : ("unicode/utf8.acceptRanges", (Rows.laid_unicode_utf8_acceptRanges : DataW Unit)) ∈ l) (h : laidMet Tryz.prog l W) : UTab W.heap.size W := by
  have r1 : Lib.VarReads Tryz.prog W "unicode/utf8.first" Lib.firstData := by
    have := Lib.laidMet.reads h h1
    unfold Rows.laid_unicode_utf8_first at this
    rwa [Pinned.utf8First_eq] at this
  have r2 : Lib.VarReads Tryz.prog W "unicode/utf8.acceptRanges" Lib.acceptData := by
    have := Lib.laidMet.reads h h2
    rwa [acceptIs] at this
  have hT : Lib.Utf8Tabs 0 1 W := utf8Tabs_of_reads Tryz.lays260 utfX r1 r2
  intro w' hb
  exact Utf8Tabs_below hT hb
end Go.Proofs.YtlnidnihhfjcpaaGreatDoor
