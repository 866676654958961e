/- From a row's list of variables to the fact that the table of the powers of ten holds its numbers; the world of the witnesses. -/
import Derived.Test.YtlnidnihhfjcpaaGreatDoorTie
import Derived.Test.YtlnidnihhfjcpaaGreatDoorWe
import Derived.ProofKit
import Derived.OpenShut
import Derived.OpenVars
import Derived.Lay
import Derived.Lib.LaidU8
import Derived.Deep.DeepHandedRow
import Derived.SevenTiedAt
namespace Go.Proofs.YtlnidnihhfjcpaaGreatDoor
open Go.ChangeShapes Go.WideShapes Go.ChangeAt Go.RowKit

theorem own : ownKnob Tryz.prog.godebug = none := by kernel_rfl
theorem laidOut : laidOutB Tryz.prog = true := by kernel_rfl
theorem gPow : Tryz.prog.globalNamed "internal/strconv.uint64pow10" = some 4 := by kernel_rfl
theorem gPowType : (Tryz.prog.globals[4]?).map (·.type) = some 143 := by kernel_rfl

/-- A listed table of integers, wherever it stands on the list. -/
theorem tab_of_reads {P : Program} {W : World} {name : String} {k : IntKind} {zs : List Int} {g : Nat} {t e : TypeId} {n : Nat}
    (hg : P.globalNamed name = some g) (hty : (P.globals[g]?).map (·.type) = some t) (ht : P.underlying t = some (.array n e)) (he : P.underlying e = some (.int k)) (hce : P.cellsOf e = 1) (hct : P.cellsOf t = n)
    (h : Lib.VarReads P W name (Lib.tabData k zs)) : Lib.TabIs P W name k zs := by
  obtain ⟨g', t', cs, fuel, p, h1, h2, h3, h4⟩ := h
  rw [hg] at h1
  cases h1
  rw [hty] at h2
  cases h2
  have := Lib.cells_of_tab ht he hce hct h4
  unfold Lib.TabIs
  rw [h3, ← this]

theorem powData {H : Type} : (Rows.laid_internal_strconv_uint64pow10 : DataW H) = Lib.tabData .u64 Lib.pow10Tab := by kernel_rfl

/-- WHAT A ROW's LIST GIVES, whichever of the seat's rows it is. -/
theorem tab_of_laid {l : List (String × DataW Unit)} {W : World} (hp : ("internal/strconv.uint64pow10", Rows.laid_internal_strconv_uint64pow10) ∈ l) (h : laidMet Tryz.prog l W) : Tab W.heap.size W := by
  refine Lib.tabBelow_of_tabIs (tab_of_reads gPow gPowType Tryz.underlying143 Tryz.underlying120 (by kernel_rfl) (by kernel_rfl) ?_)
  rw [← powData]
  exact Lib.laidMet.reads h hp

theorem i64_bounds {x : Int} (h : (Lit.int .i64 x).wf = true) : -9223372036854775808 ≤ x ∧ x ≤ 9223372036854775807 := by
  simpa [Lit.wf, IntKind.min, IntKind.max, IntKind.signed, IntKind.bits] using h
end Go.Proofs.YtlnidnihhfjcpaaGreatDoor
