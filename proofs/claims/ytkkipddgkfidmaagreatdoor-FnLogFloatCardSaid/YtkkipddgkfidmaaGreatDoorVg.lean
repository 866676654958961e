/- The contract of the law's awake: zerolog reads "info" as a level, and writes it. No conditions beyond each theorem's own. -/
import Derived.Test.YtkkipddgkfidmaaGreatDoorVc
import Derived.Deep.QuietTactic
import Derived.BigQuiet
namespace Go.Proofs.YtkkipddgkfidmaaGreatDoor
open Go.RowKit

set_option maxHeartbeats 1000000 in
theorem foldLen (s t : ByteArray) (h : s.size ≠ t.size) (w : World) :
    Calls Tryz.prog 34 #[.string s, .string t] w fun e w' => e = .returned (.bool false) ∧ w = w' := by
  have h' : ((s.size : Int) == (t.size : Int)) = false := by rw [beq_eq_false_iff_ne]; omega
  have h2 : ((s.size : Int) != (t.size : Int)) = true := by rw [bne_iff_ne]; omega
  go_enter Tryz.func34, Tryz.ntmps34
  go_wp2
  go_ret
  exact ⟨rfl, rfl⟩

set_option maxRecDepth 100000 in
set_option maxHeartbeats 2000000 in
theorem foldSame (s : ByteArray) (hs : s.size ≤ 1000) (ha : ∀ i (h : i < s.size), 90 < (s[i]'h).toNat) (w : World) :
    Calls Tryz.prog 34 #[.string s, .string s] w fun e w' => e = .returned (.bool true) ∧ ∃ m, w' = w.drewN m := by
  have HA := Lib.hid ha
  clear ha
  go_enter Tryz.func34, Tryz.ntmps34
  go_wp2
  go_loopw [15] (fun i wr => (∃ m, wr = w.drewN m) ∧ ∃ k : Nat, k ≤ s.size ∧ i = .int .i64 k) (fun i _ => s.size - (intOf i).toNat)
  case atStart => exact ⟨⟨0, rfl⟩, 0, Nat.zero_le _, rfl⟩
  case round =>
    obtain ⟨⟨m, rfl⟩, k, hk, rfl⟩ := hrel
    by_cases hlt : k < s.size
    · have h90 := HA.out k hlt
      have hn : ¬ ((s[k].toNat : Int) ≤ 90) := by omega
      go_wp2
      go_quiet (fail)
      go_wp2
      all_goals
        go_roundw
        case rel => exact ⟨⟨_, rfl⟩, k + 1, by omega, by go_num⟩
        case measure => simp [intOf]; omega
    · obtain rfl : k = s.size := by omega
      go_wp2
      go_ret
      exact ⟨rfl, _, rfl⟩
set_option maxHeartbeats 1000000 in
theorem lvName (n : Int) (t : ByteArray) (h : (n = -1 ∧ t = ⟨#[116, 114, 97, 99, 101]⟩) ∨ (n = 0 ∧ t = ⟨#[100, 101, 98, 117, 103]⟩) ∨ (n = 1 ∧ t = ⟨#[105, 110, 102, 111]⟩)) (w : World) :
    Calls Tryz.prog 22 #[.int .i8 n] w fun e w' => e = .returned (.string t) ∧ w = w' := by
  rcases h with ⟨rfl, rfl⟩ | ⟨rfl, rfl⟩ | ⟨rfl, rfl⟩
  all_goals
    go_enter Tryz.func22, Tryz.ntmps22
    go_wp2
    go_ret
    exact ⟨rfl, rfl⟩

set_option maxHeartbeats 1000000 in
theorem parseInfo (w : World) :
    Calls Tryz.prog 21 #[.string ⟨#[105, 110, 102, 111]⟩] w fun e w' => e = .returned (.tuple #[.int .i8 1, .nilIface]) ∧ ∃ m, w' = w.drewN m := by
  go_enter Tryz.func21, Tryz.ntmps21
  go_wp2_with fail
  refine (lvName (-1) _ (.inl ⟨rfl, rfl⟩) w).mono ?_
  rintro e w1 ⟨rfl, rfl⟩
  go_wp2_with fail
  refine (foldLen _ _ (by decide) w).mono ?_
  rintro e w1 ⟨rfl, rfl⟩
  go_wp2_with fail
  refine (lvName 0 _ (.inr (.inl ⟨rfl, rfl⟩)) w).mono ?_
  rintro e w1 ⟨rfl, rfl⟩
  go_wp2_with fail
  refine (foldLen _ _ (by decide) w).mono ?_
  rintro e w1 ⟨rfl, rfl⟩
  go_wp2_with fail
  refine (lvName 1 _ (.inr (.inr ⟨rfl, rfl⟩)) w).mono ?_
  rintro e w1 ⟨rfl, rfl⟩
  go_wp2_with fail
  refine (foldSame _ (by decide) (by decide) w).mono ?_
  rintro e w1 ⟨rfl, m, rfl⟩
  go_wp2
  go_ret2
  exact ⟨rfl, m, rfl⟩

set_option maxHeartbeats 1000000 in
theorem lparseInfo (w : World) :
    Calls Tryz.prog 10 #[.string ⟨#[105, 110, 102, 111]⟩] w fun e w' => e = .returned (.tuple #[.int .i64 1, .bool true]) ∧ ∃ m, w' = w.drewN m := by
  go_enter Tryz.func10, Tryz.ntmps10
  go_wp2_with fail
  refine (parseInfo w).mono ?_
  rintro e w1 ⟨rfl, m, rfl⟩
  go_wp2
  go_ret2
  exact ⟨rfl, m, rfl⟩

set_option maxHeartbeats 1000000 in
theorem llevelInfo (w : World) :
    Calls Tryz.prog 11 #[.int .i64 1] w fun e w' => e = .returned (.string ⟨#[105, 110, 102, 111]⟩) ∧ w = w' := by
  go_enter Tryz.func11, Tryz.ntmps11
  go_wp2_with fail
  refine (lvName 1 _ (.inr (.inr ⟨rfl, rfl⟩)) w).mono ?_
  rintro e w1 ⟨rfl, rfl⟩
  go_wp2
  go_ret
  exact ⟨rfl, rfl⟩

set_option maxHeartbeats 1000000 in
theorem awake (w : World) :
    Calls Tryz.prog 5 #[] w fun e w' => e = .returned (.bool true) ∧ ∃ m, w' = w.drewN m := by
  go_enter Tryz.func5, Tryz.ntmps5
  go_wp2_with fail
  refine (lparseInfo w).mono ?_
  rintro e w1 ⟨rfl, m, rfl⟩
  go_wp2_with fail
  refine (llevelInfo _).mono ?_
  rintro e w2 ⟨rfl, rfl⟩
  go_wp2
  go_ret
  exact ⟨rfl, m, rfl⟩
end Go.Proofs.YtkkipddgkfidmaaGreatDoor
