/- The contracts of the reference's JSON reader over a number's text: blanks, has, digits. No conditions beyond each theorem's own. -/
import Derived.Test.YtkkipddgkfidmaaGreatDoorVc
import Derived.Deep.QuietTactic
import Derived.BigQuiet
namespace Go.Proofs.YtkkipddgkfidmaaGreatDoor
open Go.RowKit

theorem drewN_any (w : World) (m n : Nat) : ∃ k, (w.drewN m).drewN n = w.drewN k := ⟨m + n, by simp⟩

set_option maxRecDepth 100000 in
set_option maxHeartbeats 4000000 in
theorem blanksEnd (j : Nat) (s : ByteArray) (at' : Nat) (hat : at' = s.size) (w : World)
    (c0 : w.cell? ⟨j, 0, none⟩ = some (.string s)) (c1 : w.cell? ⟨j, 1, none⟩ = some (.int .i64 (at' : Int))) :
    Calls Tryz.prog 13 #[.pointer (some ⟨j, 0, none⟩)] w fun e w' => e = .returned (.tuple #[]) ∧ ∃ m, w' = w.drewN m := by
  have hd : decide ((at' : Int) < (s.size : Int)) = false := decide_eq_false (by omega)
  go_enter Tryz.func13, Tryz.ntmps13
  go_wp2
  go_loopw [] (fun wr => ∃ m, wr = w.drewN m) (fun _ => 0)
  case atStart => exact ⟨0, rfl⟩
  case round =>
    obtain ⟨m, rfl⟩ := hrel
    go_wp2
    go_quiet (fail)
    go_wp2
    all_goals
      go_returns
      first | exact ⟨rfl, _, rfl⟩ | exact ⟨rfl, drewN_any _ _ _⟩

set_option maxRecDepth 100000 in
set_option maxHeartbeats 4000000 in
theorem blanksNone (j : Nat) (s : ByteArray) (at' : Nat) (hat : at' < s.size) (n1 : (s[at'].toNat : Int) ≠ 32) (n2 : (s[at'].toNat : Int) ≠ 9) (n3 : (s[at'].toNat : Int) ≠ 10) (n4 : (s[at'].toNat : Int) ≠ 13) (w : World)
    (c0 : w.cell? ⟨j, 0, none⟩ = some (.string s)) (c1 : w.cell? ⟨j, 1, none⟩ = some (.int .i64 (at' : Int))) :
    Calls Tryz.prog 13 #[.pointer (some ⟨j, 0, none⟩)] w fun e w' => e = .returned (.tuple #[]) ∧ ∃ m, w' = w.drewN m := by
  have hd : (at' : Int) < (s.size : Int) := by omega
  have d1 : ((s[at'].toNat : Int) == 32) = false := by rw [beq_eq_false_iff_ne]; exact n1
  have d2 : ((s[at'].toNat : Int) == 9) = false := by rw [beq_eq_false_iff_ne]; exact n2
  have d3 : ((s[at'].toNat : Int) == 10) = false := by rw [beq_eq_false_iff_ne]; exact n3
  have d4 : ((s[at'].toNat : Int) == 13) = false := by rw [beq_eq_false_iff_ne]; exact n4
  go_enter Tryz.func13, Tryz.ntmps13
  go_wp2
  go_loopw [] (fun wr => ∃ m, wr = w.drewN m) (fun _ => 0)
  case atStart => exact ⟨0, rfl⟩
  case round =>
    obtain ⟨m, rfl⟩ := hrel
    go_wp2
    go_quiet (fail)
    go_wp2
    all_goals
      go_returns
      first | exact ⟨rfl, _, rfl⟩ | exact ⟨rfl, drewN_any _ _ _⟩

set_option maxRecDepth 100000 in
set_option maxHeartbeats 4000000 in
theorem hasShort (j : Nat) (s t : ByteArray) (at' : Nat) (hat : at' ≤ s.size) (ht : t.size ≤ 1000) (h : s.size < at' + t.size) (w : World)
    (c0 : w.cell? ⟨j, 0, none⟩ = some (.string s)) (c1 : w.cell? ⟨j, 1, none⟩ = some (.int .i64 (at' : Int))) :
    Calls Tryz.prog 24 #[.pointer (some ⟨j, 0, none⟩), .string t] w fun e w' => e = .returned (.bool false) ∧ ∃ m, w' = w.drewN m := by
  have hd : (s.size : Int) - (at' : Int) < (t.size : Int) := by omega
  go_enter Tryz.func24, Tryz.ntmps24
  go_wp2
  go_quiet (fail)
  go_wp2
  all_goals
    go_ret
    first | exact ⟨rfl, _, rfl⟩ | exact ⟨rfl, 0, rfl⟩
end Go.Proofs.YtkkipddgkfidmaaGreatDoor
