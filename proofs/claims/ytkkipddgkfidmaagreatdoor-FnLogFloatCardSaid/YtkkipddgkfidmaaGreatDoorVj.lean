/- The contract of the reader's digits: a run of digits is gone over and counted. No conditions beyond each theorem's own. -/
import Derived.Test.YtkkipddgkfidmaaGreatDoorVi
namespace Go.Proofs.YtkkipddgkfidmaaGreatDoor
open Go.RowKit

set_option maxRecDepth 100000 in
set_option maxHeartbeats 8000000 in
theorem fdigits (j : Nat) (s : ByteArray) (at' n : Nat) (deep : Int) (hat : at' + n ≤ s.size) (hs : s.size ≤ 2000) (hd : ∀ i (h : i < s.size), at' ≤ i → i < at' + n → 48 ≤ (s[i]'h).toNat ∧ (s[i]'h).toNat ≤ 57)
    (he : ∀ h : at' + n < s.size, ¬ (48 ≤ (s[at' + n]'h).toNat ∧ (s[at' + n]'h).toNat ≤ 57)) (w : World) (hr : Rd j s at' deep w) :
    Calls Tryz.prog 41 #[.pointer (some ⟨j, 0, none⟩)] w fun e w' => e = .returned (.int .i64 (n : Int)) ∧ Rd j s (at' + n) deep w' ∧ Below j w w' := by
  have HD := Lib.hid hd
  have HE := Lib.hid he
  have HR := Lib.hid hr
  clear hd he hr
  go_enter Tryz.func41, Tryz.ntmps41
  go_wp2
  go_loopw [3] (fun x wr => ∃ k : Nat, k ≤ n ∧ x = .int .i64 (k : Int) ∧ Rd j s (at' + k) deep wr ∧ Below j w wr) (fun x _ => n - (intOf x).toNat)
  case atStart => exact ⟨0, Nat.zero_le _, rfl, HR.out, Below.refl _ _⟩
  case round =>
    obtain ⟨k, hk, rfl, hrd, hb⟩ := hrel
    have c0 : wr.cell? ⟨j, 0, none⟩ = some (.string s) := by rw [cell_at hrd]; rfl
    have c1 : wr.cell? ⟨j, 1, none⟩ = some (.int .i64 ((at' + k : Nat) : Int)) := by rw [cell_at hrd]; rfl
    have f1 : wr.frozen? ⟨j, 1, none⟩ = false := free_at hrd
    have RD := Lib.hid hrd
    have HB := Lib.hid hb
    clear hrd hb
    obtain ⟨a, ha⟩ : ∃ a, at' + k = a := ⟨_, rfl⟩
    rw [ha] at c1
    have HA := Lib.hid ha
    by_cases hkn : k < n
    · have hlt : a < s.size := by omega
      obtain ⟨g0, g1⟩ := HD.out a hlt (by omega) (by omega)
      have g0' : (48 : Int) ≤ (s[a].toNat : Int) := by omega
      have g1' : (s[a].toNat : Int) ≤ 57 := by omega
      have hlt' : (a : Int) < (s.size : Int) := by omega
      clear ha
      go_wp2
      go_quiet (fail)
      go_wp2
      all_goals
        go_roundw
        case rel =>
          refine ⟨k + 1, by omega, by go_num, ?_, ?_⟩
          · have := RD.out
            rw [HA.out] at this
            have hs3 : at' + (k + 1) = a + 1 := by have := HA.out; omega
            rw [hs3]
            first | exact setCell_block (show (wr.drewN _).heap[j]? = _ from this) 1 (.int .i64 ((a + 1 : Nat) : Int)) | exact setCell_block this 1 (.int .i64 ((a + 1 : Nat) : Int))
          · first | exact (HB.out.trans (drewN_below j wr _)).setCell (p := ⟨j, 1, none⟩) (Nat.le_refl _) _ | exact HB.out.setCell (p := ⟨j, 1, none⟩) (Nat.le_refl _) _
        case measure => simp [intOf]; omega
    · obtain rfl : k = n := by omega
      by_cases hlt : a < s.size
      · have hlt' : (a : Int) < (s.size : Int) := by omega
        have hE : ¬ (48 ≤ (s[a]'hlt).toNat ∧ (s[a]'hlt).toNat ≤ 57) := by
          subst ha
          exact HE.out hlt
        clear ha
        by_cases h48 : 48 ≤ (s[a]'hlt).toNat
        · have g0' : (48 : Int) ≤ (s[a].toNat : Int) := by omega
          have g1' : ¬ (s[a].toNat : Int) ≤ 57 := by omega
          clear hE h48
          go_wp2
          go_quiet (fail)
          go_wp2
          all_goals
            go_ret
            refine ⟨rfl, ?_, ?_⟩
            · first | exact (show (wr.drewN _).heap[j]? = _ from RD.out) | exact RD.out
            · first | exact HB.out.trans (drewN_below j wr _) | exact HB.out
        · have g0' : ¬ (48 : Int) ≤ (s[a].toNat : Int) := by omega
          have g0f : decide ((48 : Int) ≤ (s[a].toNat : Int)) = false := decide_eq_false g0'
          clear hE h48
          go_wp2
          go_quiet (fail)
          go_wp2
          all_goals
            go_ret
            refine ⟨rfl, ?_, ?_⟩
            · first | exact (show (wr.drewN _).heap[j]? = _ from RD.out) | exact RD.out
            · first | exact HB.out.trans (drewN_below j wr _) | exact HB.out
      · have hf : decide ((a : Int) < (s.size : Int)) = false := decide_eq_false (by omega)
        clear ha
        go_wp2
        go_quiet (fail)
        go_wp2
        all_goals
          go_ret
          refine ⟨rfl, ?_, ?_⟩
          · first | exact (show (wr.drewN _).heap[j]? = _ from RD.out) | exact RD.out
          · first | exact HB.out.trans (drewN_below j wr _) | exact HB.out
end Go.Proofs.YtkkipddgkfidmaaGreatDoor
