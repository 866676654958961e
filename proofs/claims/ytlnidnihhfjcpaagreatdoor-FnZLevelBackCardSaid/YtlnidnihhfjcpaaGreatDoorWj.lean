/- The contracts on the road of zAwake: a configuration that names the encoder of durations in nanoseconds alone. -/
import Derived.Test.YtlnidnihhfjcpaaGreatDoorWh
import Derived.StillTailTactics
import Derived.Deep.RegionHeld3
import Derived.WalkSmall
import Derived.Laws.EntriesVeiled
namespace Go.Proofs.YtlnidnihhfjcpaaGreatDoor
open Go.RowKit

theorem q25 (w : World) : Calls Tryz.prog 25 #[.int .i64 0] w fun e w' => e = .returned .nilFunc ∧ w' = w := by
  go_enter Tryz.func25, Tryz.ntmps25
  go_wp2
  go_ret
  exact ⟨rfl, rfl⟩
theorem q79 (w : World) : Calls Tryz.prog 79 #[.int .i64 0, .string ⟨#[]⟩] w fun e w' => e = .returned .nilFunc ∧ w' = w := by
  go_enter Tryz.func79, Tryz.ntmps79
  go_wp2
  go_ret
  exact ⟨rfl, rfl⟩
theorem q80 (w : World) : Calls Tryz.prog 80 #[.int .i64 2] w fun e w' => e = .returned (.func (.func 72) #[] #[]) ∧ w' = w := by
  go_enter Tryz.func80, Tryz.ntmps80
  go_wp2
  go_ret
  exact ⟨rfl, rfl⟩
theorem q81 (w : World) : Calls Tryz.prog 81 #[.int .i64 0] w fun e w' => e = .returned .nilFunc ∧ w' = w := by
  go_enter Tryz.func81, Tryz.ntmps81
  go_wp2
  go_ret
  exact ⟨rfl, rfl⟩

abbrev noS : Value := .string ⟨#[]⟩
abbrev zcfg : Array Value := #[noS, noS, noS, noS, noS, noS, noS, .bool false, noS, .int .i64 0, .int .i64 0, .int .i64 2, .int .i64 0, .int .i64 0, noS, noS]
abbrev ecfg : Array Value := #[noS, noS, noS, noS, noS, noS, noS, .bool false, noS, .nilFunc, .nilFunc, .func (.func 72) #[] #[], .nilFunc, .nilFunc, noS]

set_option maxRecDepth 100000 in
set_option maxHeartbeats 2000000 in
theorem config (w : World) :
    Calls Tryz.prog 46 #[.agg zcfg] w fun e w' => e = .returned (.agg ecfg) ∧ Below w.heap.size w w' := by
  go_enter Tryz.func46, Tryz.ntmps46
  go_wp2_with fail
  go_region_held3 (fun w' => w'.cell? ⟨w.heap.size, 0, none⟩ = some (noS) ∧ w'.cell? ⟨w.heap.size, 1, none⟩ = some (noS) ∧ w'.cell? ⟨w.heap.size, 2, none⟩ = some (noS) ∧ w'.cell? ⟨w.heap.size, 3, none⟩ = some (noS) ∧ w'.cell? ⟨w.heap.size, 4, none⟩ = some (noS) ∧ w'.cell? ⟨w.heap.size, 5, none⟩ = some (noS) ∧ w'.cell? ⟨w.heap.size, 6, none⟩ = some (noS) ∧ w'.cell? ⟨w.heap.size, 7, none⟩ = some (.bool false) ∧ w'.cell? ⟨w.heap.size, 8, none⟩ = some (noS) ∧ w'.cell? ⟨w.heap.size, 9, none⟩ = some (.int .i64 0) ∧ w'.cell? ⟨w.heap.size, 10, none⟩ = some (.int .i64 0) ∧ w'.cell? ⟨w.heap.size, 11, none⟩ = some (.int .i64 2) ∧ w'.cell? ⟨w.heap.size, 12, none⟩ = some (.int .i64 0) ∧ w'.cell? ⟨w.heap.size, 13, none⟩ = some (.int .i64 0) ∧ w'.cell? ⟨w.heap.size, 14, none⟩ = some (noS) ∧ w'.cell? ⟨w.heap.size, 15, none⟩ = some (noS)) (go_keep)
    (first | (go_at_call 25; refine (q25 _).mono ?_; rintro e w' ⟨rfl, rfl⟩) | (go_at_call 79; refine (q79 _).mono ?_; rintro e w' ⟨rfl, rfl⟩) | (go_at_call 80; refine (q80 _).mono ?_; rintro e w' ⟨rfl, rfl⟩) | (go_at_call 81; refine (q81 _).mono ?_; rintro e w' ⟨rfl, rfl⟩))
  all_goals
    go_wp2
    go_returns
    exact ⟨rfl, by go_grown⟩
end Go.Proofs.YtlnidnihhfjcpaaGreatDoor
