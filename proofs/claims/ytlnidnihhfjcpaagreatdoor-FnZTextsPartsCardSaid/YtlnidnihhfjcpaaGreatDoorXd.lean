/- FnZTextsParts holds: for every two texts the law answers true, and its arguments and the named variables read as before. Conditions: none of ours; the row's own list of package-level variables, tied to the text by the given tie. -/
import Derived.Test.YtlnidnihhfjcpaaGreatDoorCards
import Derived.Test.YtlnidnihhfjcpaaGreatDoorXe
import Derived.Test.YtlnidnihhfjcpaaGreatDoorWr
namespace Go.Proofs.YtlnidnihhfjcpaaGreatDoor
open Go.ChangeShapes Go.WideShapes Go.ChangeAt Go.RowKit
open Go.ChangeMaps (open_string shut_string)
namespace FnZTextsPartsP

set_option maxRecDepth 100000 in
theorem lifted (os : Os) (started : os.Started) (H : Type) (enc : TypeId × Value → H) :
    ReturnsInHanded {} Tryz.checked os 5 .any (fun w args => (Rows.fnZTextsPartsSpec.pre enc Tryz.prog Tryz.f5 Rows.fnZTextsPartsRow.domain false w args ∧ laidMetH Tryz.prog Rows.fnZTextsPartsRow.laid w) ∧ sizedMet enc Tryz.prog Tryz.f5 (OpenSpec.ofChange Rows.fnZTextsPartsSpec) false w args)
      (Rows.fnZTextsPartsSpec.post enc Tryz.prog Tryz.f5 false true false false) := by
  refine returnsInHanded_of_change_and (C := Tryz.checked) (X := fun w _ => laidMetH Tryz.prog Rows.fnZTextsPartsRow.laid w) (fun _ _ _ hh h => h.of_heap hh) own started (by kernel_rfl) Tryz.func5
    (ChangeSpec.witness_shaped (enc := enc) (C := Tryz.checked) (os := os) (X := fun w _ => laidMetH Tryz.prog Rows.fnZTextsPartsRow.laid w) false (World.laidAll Tryz.prog os Rows.fnZTextsPartsRow.laid) #[.string ⟨#[]⟩, .string ⟨#[]⟩] 8 (World.laidAll_os _ _ _)
      (World.shaped_of_ZipB (by kernel_rfl) (by kernel_rfl)) (by kernel_rfl) (by kernel_rfl) (by kernel_rfl)
      (by rw [MakeChecks.laidMetH_plain _ _ _ (by kernel_rfl)]; exact laidMet_laidAll _ (by kernel_rfl) (by kernel_rfl))) ?_
  intro W base args ds gs before hval0 hW _ _ hL _
  have hval : ∀ (j : Nat) t v, Tryz.f5.params[j]? = some t → args[j]? = some v → Value.okWide Tryz.prog W .any base t v := hval0
  have hW' := hW
  obtain ⟨p, q, hA0, hV, rfl, _, _⟩ := hW
  have hA : DataW.TrodAll enc Tryz.prog W 0 (fun _ => true) true Tryz.f5.params.toList args.toList ds p := hA0
  rw [Tryz.params5] at hA hval
  obtain ⟨v0, v1, d0, d1, p0, p1, rfl, rfl, rfl, h0, h1⟩ := trodAll_two hA
  obtain ⟨x, rfl, rfl, rfl, wx⟩ := open_string Tryz.underlying9 (hval 0 9 v0 rfl rfl) h0
  obtain ⟨y, rfl, rfl, rfl, wy⟩ := open_string Tryz.underlying9 (hval 1 9 v1 rfl rfl) h1
  have hV' : DataW.TrodVars enc Tryz.prog W (fun _ => true) Rows.fnZTextsPartsSpec.vars gs q := hV
  rw [MakeChecks.laidMetH_plain _ _ _ (by kernel_rfl)] at hL
  have hT : Tab W.heap.size W := tab_of_laid (by simp [Rows.fnZTextsPartsRow]) hL
  have hU : UTab W.heap.size W := utab_of_laid (by simp [Rows.fnZTextsPartsRow]) (by simp [Rows.fnZTextsPartsRow]) hL
  refine (parts x y W hT hU).mono fun e W' ⟨he, hb⟩ => ?_
  subst he
  have hvar := hb.trodVars laidOut (by kernel_rfl) hV'
  match gs, hvar, hW' with
  | [g1, g2, g3], hvar, hW' =>
    exact ⟨_, rfl, _, _, _, [], [], _, hW', trodAll_mk1 (shut_bool Tryz.underlying4 _), trodAll_mk2 (shut_string Tryz.underlying9 wx) (shut_string Tryz.underlying9 wy), hvar, hb.frame _, fun h => by cases h⟩

theorem said : Rows.FnZTextsPartsSaid :=
  OpenClaim.holds_of_wide 5 Tryz.f5 rfl rfl rfl rfl rfl rfl rfl ⟨rfl, rfl, rfl, rfl, rfl⟩ rfl rfl rfl rfl rfl (by kernel_rfl) Tryz.func5 (by kernel_rfl)
    (of_decide_eq_true (by kernel_rfl)) (by unfold Func.isWrapper; first | (rw [if_pos (by decide +kernel)]; kernel_rfl) | (rw [if_neg (by decide +kernel)]; exact ⟨rfl, rfl⟩))
    (fun os started H enc _ => lifted os started H enc)

theorem card : Rows.FnZTextsPartsCardSaid :=
  Claim7.holds_tied_plain_at .later [] _ _ _ _ said (fun _ h => by cases h) (by kernel_rfl) (fun _ h => by cases h) fnZTextsParts_row_tie rfl ⟨rfl, rfl⟩ (by kernel_rfl) rfl
    (fun f fn hf hfn => by
      obtain rfl : f = 5 := Option.some.inj ((show Tryz.prog.funcNamed "given.example/pub-chandler/laws.FnZTextsParts" = some 5 by kernel_rfl).symm.trans hf) |>.symm
      obtain rfl : fn = Tryz.f5 := (Option.some.inj (Tryz.func5.symm.trans hfn)).symm
      exact ⟨by kernel_rfl, fun j t ht => by
        rw [Tryz.params5] at ht
        have hm : t ∈ [9,9] := by simpa using Array.mem_of_getElem? ht
        have hall : ([9,9].all fun u => !Tryz.prog.wantsStandIn u) = true := by kernel_rfl
        exact (show Tryz.prog.wantsStandIn t = false by simpa using List.all_eq_true.1 hall t hm)⟩)
    (by kernel_rfl)
end FnZTextsPartsP

theorem fnZTextsPartsHolds : Rows.FnZTextsPartsCardSaid := FnZTextsPartsP.card
#print axioms fnZTextsPartsHolds
end Go.Proofs.YtlnidnihhfjcpaaGreatDoor
