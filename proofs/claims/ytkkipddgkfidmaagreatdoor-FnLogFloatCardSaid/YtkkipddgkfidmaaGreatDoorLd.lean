/- FnLogFloat holds: for every float and either width the law answers true, and its arguments read as before. Conditions: none of ours; the row's own list of package-level variables, tied to the text by the given tie. -/
import Derived.Test.YtkkipddgkfidmaaGreatDoorCards
import Derived.Test.YtkkipddgkfidmaaGreatDoorLc
namespace Go.Proofs.YtkkipddgkfidmaaGreatDoor
open Go.ChangeShapes Go.WideShapes Go.ChangeAt Go.RowKit
namespace FnLogFloatP

set_option maxRecDepth 100000 in
theorem lifted (os : Os) (started : os.Started) (H : Type) (enc : TypeId × Value → H) :
    ReturnsInHanded {} Tryz.checked os 3 .any (fun w args => (Rows.fnLogFloatSpec.pre enc Tryz.prog Tryz.f3 Rows.fnLogFloatRow.domain false w args ∧ laidMetH Tryz.prog Rows.fnLogFloatRow.laid w) ∧ sizedMet enc Tryz.prog Tryz.f3 (OpenSpec.ofChange Rows.fnLogFloatSpec) false w args)
      (Rows.fnLogFloatSpec.post enc Tryz.prog Tryz.f3 false true false false) := by
  refine returnsInHanded_of_change_and (C := Tryz.checked) (X := fun w _ => laidMetH Tryz.prog Rows.fnLogFloatRow.laid w) (fun _ _ _ hh h => h.of_heap hh) own started (by kernel_rfl) Tryz.func3
    (ChangeSpec.witness_shaped (enc := enc) (C := Tryz.checked) (os := os) (X := fun w _ => laidMetH Tryz.prog Rows.fnLogFloatRow.laid w) false (World.laidAll Tryz.prog os Rows.fnLogFloatRow.laid) #[.float .f64 0, .bool false] 8 (World.laidAll_os _ _ _)
      (World.shaped_of_ZipB (by kernel_rfl) (by kernel_rfl)) (by kernel_rfl) (by kernel_rfl) (by kernel_rfl)
      (by rw [MakeChecks.laidMetH_plain _ _ _ (by kernel_rfl)]; exact laidMet_laidAll _ (by kernel_rfl) (by kernel_rfl))) ?_
  intro W base args ds gs before hval0 hW _ _ hL _
  have hval : ∀ (j : Nat) t v, Tryz.f3.params[j]? = some t → args[j]? = some v → Value.okWide Tryz.prog W .any base t v := hval0
  have hW' := hW
  obtain ⟨p, q, hA0, hV, rfl, _, _⟩ := hW
  have hA : DataW.TrodAll enc Tryz.prog W 0 (fun _ => true) true Tryz.f3.params.toList args.toList ds p := hA0
  rw [Tryz.params3] at hA hval
  obtain ⟨v0, v1, d0, d1, p0, p1, rfl, rfl, rfl, h0, h1⟩ := trodAll_two hA
  obtain ⟨x, rfl, rfl, rfl, wx⟩ := open_float Tryz.underlying22 (hval 0 22 v0 rfl rfl) h0
  obtain ⟨y, rfl, rfl, rfl⟩ := open_bool Tryz.underlying4 (hval 1 4 v1 rfl rfl) h1
  have hV' : DataW.TrodVars enc Tryz.prog W (fun _ => true) Rows.fnLogFloatSpec.vars gs q := hV
  rw [MakeChecks.laidMetH_plain _ _ _ (by kernel_rfl)] at hL
  have hT : PTab W.heap.size W := ptab_of_laid (by simp [Rows.fnLogFloatRow]) hL
  have hU : Lib.TabBelow Tryz.prog W.heap.size W "internal/strconv.uint64pow10" .u64 Lib.pow10Tab := utab_of_laid (by simp [Rows.fnLogFloatRow]) hL
  have hx : x < 18446744073709551616 := by simpa [Lit.wf] using wx
  refine (flaw x hx y W hT hU).mono fun e W' ⟨he, hb⟩ => ?_
  subst he
  have hvar := hb.trodVars laidOut (by kernel_rfl) hV'
  match gs, hvar, hW' with
  | [], hvar, hW' =>
    exact ⟨_, rfl, _, _, _, [], [], _, hW', trodAll_mk1 (shut_bool Tryz.underlying4 _), trodAll_mk2 (shut_float Tryz.underlying22 wx) (shut_bool Tryz.underlying4 _), hvar, hb.frame _, fun h => by cases h⟩

theorem said : Rows.FnLogFloatSaid :=
  OpenClaim.holds_of_wide 3 Tryz.f3 rfl rfl rfl rfl rfl rfl rfl ⟨rfl, rfl, rfl, rfl, rfl⟩ rfl rfl rfl rfl rfl (by kernel_rfl) Tryz.func3 (by kernel_rfl)
    (of_decide_eq_true (by kernel_rfl)) (by unfold Func.isWrapper; first | (rw [if_pos (by decide +kernel)]; kernel_rfl) | (rw [if_neg (by decide +kernel)]; exact ⟨rfl, rfl⟩))
    (fun os started H enc _ => lifted os started H enc)

theorem card : Rows.FnLogFloatCardSaid :=
  Claim7.holds_tied_plain_at .later [] _ _ _ _ said (fun _ h => by cases h) (by kernel_rfl) (fun _ h => by cases h) fnLogFloat_row_tie rfl ⟨rfl, rfl⟩ (by kernel_rfl) rfl
    (fun f fn hf hfn => by
      obtain rfl : f = 3 := Option.some.inj ((show Tryz.prog.funcNamed "given.example/pub-chandler/laws.FnLogFloat" = some 3 by kernel_rfl).symm.trans hf) |>.symm
      obtain rfl : fn = Tryz.f3 := (Option.some.inj (Tryz.func3.symm.trans hfn)).symm
      exact ⟨by kernel_rfl, fun j t ht => by
        rw [Tryz.params3] at ht
        have hm : t ∈ [22, 4] := by simpa using Array.mem_of_getElem? ht
        have hall : ([22, 4].all fun u => !Tryz.prog.wantsStandIn u) = true := by kernel_rfl
        exact (show Tryz.prog.wantsStandIn t = false by simpa using List.all_eq_true.1 hall t hm)⟩)
    (by kernel_rfl)
end FnLogFloatP

theorem fnLogFloatHolds : Rows.FnLogFloatCardSaid := FnLogFloatP.card
#print axioms fnLogFloatHolds
end Go.Proofs.YtkkipddgkfidmaaGreatDoor
