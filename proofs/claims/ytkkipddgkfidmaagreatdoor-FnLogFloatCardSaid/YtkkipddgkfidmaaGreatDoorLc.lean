/- From the row's list of variables to the facts that the tables of the powers of ten hold their numbers. -/
import Derived.Test.YtkkipddgkfidmaaGreatDoorTie
import Derived.Test.YtkkipddgkfidmaaGreatDoorLb
import Derived.ProofKit
import Derived.OpenShut
import Derived.OpenVars
import Derived.Lay
import Derived.Lib.LaidU8
import Derived.Deep.DeepHandedRow
import Derived.SevenTiedAt
namespace Go.Proofs.YtkkipddgkfidmaaGreatDoor
open Go.ChangeShapes Go.WideShapes Go.ChangeAt Go.RowKit

theorem own : ownKnob Tryz.prog.godebug = none := by kernel_rfl
theorem laidOut : laidOutB Tryz.prog = true := by kernel_rfl
theorem gPow : Tryz.prog.globalNamed "internal/strconv.uint64pow10" = some 6 := by kernel_rfl
theorem gPowType : (Tryz.prog.globals[6]?).map (·.type) = some 141 := by kernel_rfl
theorem gTab : Tryz.prog.globalNamed "internal/strconv.pow10Tab" = some 7 := by kernel_rfl
theorem gTabType : (Tryz.prog.globals[7]?).map (·.type) = some 152 := by kernel_rfl

/-- A listed table of integers, wherever it stands on the list. -/
theorem tab_of_reads {P : Program} {W : World} {name : String} {k : IntKind} {zs : List Int} {g : Nat} {t e : TypeId} {n : Nat}
    (hg : P.globalNamed name = some g) (hty : (P.globals[g]?).map (·.type) = some t) (ht : P.underlying t = some (.array n e)) (he : P.underlying e = some (.int k)) (hce : P.cellsOf e = 1) (hct : P.cellsOf t = n)
    (h : Lib.VarReads P W name (Lib.tabData k zs)) : Lib.TabIs P W name k zs := by
  obtain ⟨g', t', cs, fuel, p, h1, h2, h3, h4⟩ := h
  rw [hg] at h1
  cases h1
  rw [hty] at h2
  cases h2
  have := Lib.cells_of_tab ht he hce hct h4
  unfold Lib.TabIs
  rw [h3, ← this]

theorem powData {H : Type} : (Rows.laid_internal_strconv_uint64pow10 : DataW H) = Lib.tabData .u64 Lib.pow10Tab := by kernel_rfl

theorem utab_of_laid {l : List (String × DataW Unit)} {W : World} (hp : ("internal/strconv.uint64pow10", Rows.laid_internal_strconv_uint64pow10) ∈ l) (h : laidMet Tryz.prog l W) : Lib.TabBelow Tryz.prog W.heap.size W "internal/strconv.uint64pow10" .u64 Lib.pow10Tab := by
  refine Lib.tabBelow_of_tabIs (tab_of_reads gPow gPowType Tryz.underlying141 Tryz.underlying52 (by kernel_rfl) (by kernel_rfl) ?_)
  rw [← powData]
  exact Lib.laidMet.reads h hp

theorem c151 : Tryz.prog.cellsOf 151 = 2 := by kernel_rfl
theorem c52 : Tryz.prog.cellsOf 52 = 1 := by kernel_rfl

theorem ptab_of_laid {l : List (String × DataW Unit)} {W : World} (hp : ("internal/strconv.pow10Tab", Rows.laid_internal_strconv_pow10Tab) ∈ l) (h : laidMet Tryz.prog l W) : PTab W.heap.size W := by
  have r : Lib.VarReads Tryz.prog W "internal/strconv.pow10Tab" Go.Pinned.pow10Tab := Lib.laidMet.reads h hp
  obtain ⟨g, t, cs, fuel, p, hg, hty, hvar, hd⟩ := r
  obtain rfl := Option.some.inj (gTab.symm.trans hg)
  obtain rfl := Option.some.inj (gTabType.symm.trans hty)
  have key : ∀ i, i < 696 → W.cell? ⟨7, i * 2, none⟩ = some (.int .u64 ((Go.Pinned.pow10Rows.getD i (0, 0)).1 : Int)) ∧ W.cell? ⟨7, i * 2 + 1, none⟩ = some (.int .u64 ((Go.Pinned.pow10Rows.getD i (0, 0)).2 : Int)) := by
    intro i hi
    unfold Go.Pinned.pow10Tab at hd
    obtain ⟨fuel', d, q, hdi, he⟩ := Lib.array_elem Tryz.underlying152 hd i hi
    have hil : i < Go.Pinned.pow10Rows.length := by rw [rows_len]; exact hi
    rw [List.getElem?_map, List.getElem?_eq_getElem hil, Option.map_some, Option.some.injEq] at hdi
    subst hdi
    have hgd : Go.Pinned.pow10Rows.getD i (0, 0) = Go.Pinned.pow10Rows[i]'hil := by
      rw [List.getD_eq_getElem?_getD, List.getElem?_eq_getElem hil]
      rfl
    rw [hgd]
    generalize Go.Pinned.pow10Rows[i]'hil = x at he
    rw [c151] at he
    have hcs := Lib.ints_of_struct (k := .u64) (zs := [(x.1 : Int), (x.2 : Int)]) Tryz.underlying151 (fun j f hj => by
      match j, hj with
      | 0, hj => simp at hj; subst hj; exact ⟨Tryz.underlying52, rfl, c52⟩
      | 1, hj => simp at hj; subst hj; exact ⟨Tryz.underlying52, rfl, c52⟩
      | j + 2, hj => simp at hj) (by rw [c151]; rfl) he
    have e0 := congrArg (·[0]?) hcs
    have e1 := congrArg (·[1]?) hcs
    simp only [List.getElem?_take, List.getElem?_drop] at e0 e1
    constructor
    · rw [World.var?_cell hg hvar (i * 2), ← Array.getElem?_toList]
      simpa using e0
    · rw [World.var?_cell hg hvar (i * 2 + 1), ← Array.getElem?_toList]
      simpa using e1
  have h7 : 7 < W.heap.size := by
    have := (key 0 (by decide)).1
    unfold World.cell? at this
    by_cases c : 7 < W.heap.size
    · exact c
    · exfalso
      rw [show W.heap[(⟨7, 0 * 2, none⟩ : Addr).block]? = none from Array.getElem?_eq_none (by show W.heap.size ≤ 7; omega)] at this
      cases this
  intro w' hb i hi
  have := key i hi
  rw [hb.cell (show 7 < W.heap.size from h7), hb.cell (show 7 < W.heap.size from h7)]
  exact this
end Go.Proofs.YtkkipddgkfidmaaGreatDoor
