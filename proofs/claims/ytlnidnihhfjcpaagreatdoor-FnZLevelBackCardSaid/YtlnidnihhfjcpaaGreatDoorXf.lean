/- FnZLevelBack holds: for every text, level and turn the law answers true, and its arguments and the named variables read as before. Conditions: none of ours; the row's own list of package-level variables, tied to the text by the given tie. -/
import Derived.Test.YtlnidnihhfjcpaaGreatDoorCards
import Derived.Test.YtlnidnihhfjcpaaGreatDoorXa
import Derived.Test.YtlnidnihhfjcpaaGreatDoorWw
namespace Go.Proofs.YtlnidnihhfjcpaaGreatDoor
open Go.ChangeShapes Go.WideShapes Go.ChangeAt Go.RowKit
open Go.ChangeMaps (open_string shut_string)
namespace FnZLevelBackP

theorem u8_bounds {x : Int} (h : (Lit.int .u8 x).wf = true) : 0 ≤ x ∧ x ≤ 255 := by
  simpa [Lit.wf, IntKind.min, IntKind.max, IntKind.signed, IntKind.bits] using h

set_option maxRecDepth 100000 in
theorem lifted (os : Os) (started : os.Started) (H : Type) (enc : TypeId × Value → H) :
    ReturnsInHanded {} Tryz.checked os 6 .any (fun w args => (Rows.fnZLevelBackSpec.pre enc Tryz.prog Tryz.f6 Rows.fnZLevelBackRow.domain false w args ∧ laidMetH Tryz.prog Rows.fnZLevelBackRow.laid w) ∧ sizedMet enc Tryz.prog Tryz.f6 (OpenSpec.ofChange Rows.fnZLevelBackSpec) false w args)
      (Rows.fnZLevelBackSpec.post enc Tryz.prog Tryz.f6 false true false false) := by
  refine returnsInHanded_of_change_and (C := Tryz.checked) (X := fun w _ => laidMetH Tryz.prog Rows.fnZLevelBackRow.laid w) (fun _ _ _ hh h => h.of_heap hh) own started (by kernel_rfl) Tryz.func6
    (ChangeSpec.witness_shaped (enc := enc) (C := Tryz.checked) (os := os) (X := fun w _ => laidMetH Tryz.prog Rows.fnZLevelBackRow.laid w) false (World.laidAll Tryz.prog os Rows.fnZLevelBackRow.laid) #[.string ⟨#[]⟩, .int .i64 0, .int .u8 0] 8 (World.laidAll_os _ _ _)
      (World.shaped_of_ZipB (by kernel_rfl) (by kernel_rfl)) (by kernel_rfl) (by kernel_rfl) (by kernel_rfl)
      (by rw [MakeChecks.laidMetH_plain _ _ _ (by kernel_rfl)]; exact laidMet_laidAll _ (by kernel_rfl) (by kernel_rfl))) ?_
  intro W base args ds gs before hval0 hW _ _ hL _
  have hval : ∀ (j : Nat) t v, Tryz.f6.params[j]? = some t → args[j]? = some v → Value.okWide Tryz.prog W .any base t v := hval0
  have hW' := hW
  obtain ⟨p, q, hA0, hV, rfl, _, _⟩ := hW
  have hA : DataW.TrodAll enc Tryz.prog W 0 (fun _ => true) true Tryz.f6.params.toList args.toList ds p := hA0
  rw [Tryz.params6] at hA hval
  obtain ⟨v0, v1, v2, d0, d1, d2, p0, p1, p2, rfl, rfl, rfl, h0, h1, h2⟩ := trodAll_three hA
  obtain ⟨x, rfl, rfl, rfl, wx⟩ := open_string Tryz.underlying9 (hval 0 9 v0 rfl rfl) h0
  obtain ⟨y, rfl, rfl, rfl, wy⟩ := open_int Tryz.underlying3 (hval 1 3 v1 rfl rfl) h1
  obtain ⟨z, rfl, rfl, rfl, wz⟩ := open_int Tryz.underlying5 (hval 2 5 v2 rfl rfl) h2
  have hV' : DataW.TrodVars enc Tryz.prog W (fun _ => true) Rows.fnZLevelBackSpec.vars gs q := hV
  rw [MakeChecks.laidMetH_plain _ _ _ (by kernel_rfl)] at hL
  have hT : Tab W.heap.size W := tab_of_laid (by simp [Rows.fnZLevelBackRow]) hL
  refine (back x y z (i64_bounds wy).1 (i64_bounds wy).2 (u8_bounds wz).1 (u8_bounds wz).2 W hT).mono fun e W' ⟨he, hb⟩ => ?_
  subst he
  have hvar := hb.trodVars laidOut (by kernel_rfl) hV'
  match gs, hvar, hW' with
  | [g1, g2, g3, g4], hvar, hW' =>
    exact ⟨_, rfl, _, _, _, [], [], _, hW', trodAll_mk1 (shut_bool Tryz.underlying4 _), trodAll_mk3 (shut_string Tryz.underlying9 wx) (shut_int Tryz.underlying3 wy) (shut_int Tryz.underlying5 wz), hvar, hb.frame _, fun h => by cases h⟩

theorem said : Rows.FnZLevelBackSaid :=
  OpenClaim.holds_of_wide 6 Tryz.f6 rfl rfl rfl rfl rfl rfl rfl ⟨rfl, rfl, rfl, rfl, rfl⟩ rfl rfl rfl rfl rfl (by kernel_rfl) Tryz.func6 (by kernel_rfl)
    (of_decide_eq_true (by kernel_rfl)) (by unfold Func.isWrapper; first | (rw [if_pos (by decide +kernel)]; kernel_rfl) | (rw [if_neg (by decide +kernel)]; exact ⟨rfl, rfl⟩))
    (fun os started H enc _ => lifted os started H enc)

theorem card : Rows.FnZLevelBackCardSaid :=
  Claim7.holds_tied_plain_at .later [] _ _ _ _ said (fun _ h => by cases h) (by kernel_rfl) (fun _ h => by cases h) fnZLevelBack_row_tie rfl ⟨rfl, rfl⟩ (by kernel_rfl) rfl
    (fun f fn hf hfn => by
      obtain rfl : f = 6 := Option.some.inj ((show Tryz.prog.funcNamed "given.example/pub-chandler/laws.FnZLevelBack" = some 6 by kernel_rfl).symm.trans hf) |>.symm
      obtain rfl : fn = Tryz.f6 := (Option.some.inj (Tryz.func6.symm.trans hfn)).symm
      exact ⟨by kernel_rfl, fun j t ht => by
        rw [Tryz.params6] at ht
        have hm : t ∈ [9,3,5] := by simpa using Array.mem_of_getElem? ht
        have hall : ([9,3,5].all fun u => !Tryz.prog.wantsStandIn u) = true := by kernel_rfl
        exact (show Tryz.prog.wantsStandIn t = false by simpa using List.all_eq_true.1 hall t hm)⟩)
    (by kernel_rfl)
end FnZLevelBackP

theorem fnZLevelBackHolds : Rows.FnZLevelBackCardSaid := FnZLevelBackP.card
#print axioms fnZLevelBackHolds
end Go.Proofs.YtlnidnihhfjcpaaGreatDoor
