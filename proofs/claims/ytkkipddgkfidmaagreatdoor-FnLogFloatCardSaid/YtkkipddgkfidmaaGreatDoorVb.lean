/- The contracts of prescale and uscale: the table's entry, and the scaled product. No conditions beyond each theorem's own. -/
import Derived.Test.YtkkipddgkfidmaaGreatDoorVa
import Derived.Deep.QuietTactic
import Derived.BigQuiet
namespace Go.Proofs.YtkkipddgkfidmaaGreatDoor
open Go.RowKit

theorem fbool64' (b : Bool) (w : World) :
    Calls Tryz.prog 102 #[.bool b] w fun e w' => e = .returned (.int .u64 (if b then 1 else 0)) ∧ w' = w := (fbool64 b w).mono fun _ _ h => ⟨h.1, h.2.symm⟩

theorem fboolun' (b : Bool) (w : World) :
    Calls Tryz.prog 103 #[.bool b] w fun e w' => e = .returned (.int .u64 (if b then 1 else 0)) ∧ w' = w := (fboolun b w).mono fun _ _ h => ⟨h.1, h.2.symm⟩

theorem and63 (s : Nat) (h : s < 64) : bits .and .i64 (s : Int) 63 = (s : Int) := by
  have := bits_mask .i64 63 (by decide) (fun n h0 h1 => by simp [IntKind.wrap, IntKind.bits, IntKind.signed]; omega) 6 (by decide) (s : Int) (by omega) (by omega)
  rw [show ((2 : Int) ^ 6 - 1) = 63 by decide, show ((2 : Int) ^ 6) = 64 by decide] at this
  rw [this]
  omega

theorem fmul (x y H M : Nat) (hx : x < 18446744073709551616) (hy : y < 18446744073709551616) (hH : x * y / 18446744073709551616 = H) (hM : x * y % 18446744073709551616 = M) (w : World) :
    Calls Tryz.prog 101 #[.int .u64 (x : Int), .int .u64 (y : Int)] w fun e w' => e = .returned (.tuple #[.int .u64 (H : Int), .int .u64 (M : Int)]) ∧ w' = w := by
  have := Tryz.bits_Mul64 x y hx hy w
  rw [hH, hM] at this
  exact this

def usR (H M m2 T : Nat) : Nat :=
  if H % T ≠ 0 then stick (H / T)
  else
    let H' := if M < m2 then H - 1 else H
    if (M + 18446744073709551616 - m2) % 18446744073709551616 > 1 then stick (H' / T) else H' / T

theorem us_eq (x hi lo T : Nat) : us x hi lo T = usR (x * hi / 18446744073709551616) (x * hi % 18446744073709551616) (x * lo / 18446744073709551616) T := rfl

set_option maxHeartbeats 2000000 in
theorem fuscale_aux (x hi lo s k H M m2 l2 T : Nat) (hx : x < 18446744073709551616) (hhi : hi < 18446744073709551616) (hlo : lo < 18446744073709551616) (hs : s < 64) (w : World)
    (hc0 : w.cell? ⟨k, 0, none⟩ = some (.int .u64 (hi : Int))) (hc1 : w.cell? ⟨k, 1, none⟩ = some (.int .u64 (lo : Int))) (hc2 : w.cell? ⟨k, 2, none⟩ = some (.int .i64 (s : Int)))
    (hH : x * hi / 18446744073709551616 = H) (hM : x * hi % 18446744073709551616 = M) (hm : x * lo / 18446744073709551616 = m2) (hl : x * lo % 18446744073709551616 = l2) (hT : 2 ^ s = T)
    (b1 : H < 18446744073709551616) (b2 : M < 18446744073709551616) (b3 : m2 < 18446744073709551616) (b4 : H = 0 → m2 ≤ M) :
    Calls Tryz.prog 84 #[.int .u64 (x : Int), .pointer (some ⟨k, 0, none⟩)] w fun e w' => e = .returned (.int .u64 (usR H M m2 T : Nat)) ∧ ∃ m, w' = w.drewN m := by
  have h63 := and63 s hs
  have hT0 : 0 < T := by rw [← hT]; exact Nat.two_pow_pos s
  have hTi : (2 : Int) ^ s = (T : Int) := by rw [← hT]; simp
  have hdiv : H / T ≤ H := Nat.div_le_self H T
  have hwr : IntKind.u64.wrap ((H : Int) / (T : Int) * (T : Int)) = ((H / T * T : Nat) : Int) := by
    have h1 : H / T * T ≤ H := Nat.div_mul_le_self H T
    have h2 : ((H / T * T : Nat) : Int) = (H : Int) / (T : Int) * (T : Int) := by simp
    rw [← h2, wrapU]
    generalize H / T * T = Y at *
    omega
  have hmd := Nat.div_add_mod H T
  rw [Nat.mul_comm] at hmd
  have F1 := Lib.hid (fmul x hi H M hx hhi hH hM)
  have F2 := Lib.hid (fmul x lo m2 l2 hx hlo hm hl)
  unfold usR
  clear hH hM hm hl
  by_cases c : H % T = 0
  · have hne : (IntKind.u64.wrap ((H : Int) / (T : Int) * (T : Int)) != (H : Int)) = false := by
      rw [hwr]
      have : H / T * T = H := by omega
      rw [this]
      simp
    simp only [c, ne_eq, not_true_eq_false, if_false]
    clear hwr hmd
    by_cases c2 : M < m2
    · have c2' : (M : Int) < (m2 : Int) := by omega
      have hH1 : 1 ≤ H := by omega
      have hdiv2 : (H - 1) / T ≤ H - 1 := Nat.div_le_self _ T
      have hsub : IntKind.u64.wrap ((M : Int) - (m2 : Int)) = (((M + 18446744073709551616 - m2) % 18446744073709551616 : Nat) : Int) := by rw [wrapU]; omega
      obtain ⟨dd, hdd⟩ : ∃ dd, (M + 18446744073709551616 - m2) % 18446744073709551616 = dd := ⟨_, rfl⟩
      rw [hdd] at hsub
      rw [if_pos c2, hdd]
      have hHi : ((H - 1 : Nat) : Int) = (H : Int) - 1 := by omega
      have hor : bits BinOp.or IntKind.u64 (((H : Int) - 1) / (T : Int)) 1 = ((stick ((H - 1) / T) : Nat) : Int) := by
        have := or1 ((H - 1) / T) (by omega)
        rw [← hHi]
        simpa using this
      have hor0 : bits BinOp.or IntKind.u64 (((H : Int) - 1) / (T : Int)) 0 = (((H - 1) / T : Nat) : Int) := by
        have := (bits_nat .u64 64 (by decide) wraps_u64 ((H - 1) / T) 0 (by omega) (by decide)).2
        rw [← hHi]
        simpa using this
      by_cases c3 : dd > 1
      · rw [if_pos c3]
        go_enter Tryz.func84, Tryz.ntmps84
        go_wp2_with fail
        refine (F1.out w).mono ?_
        rintro e w1 ⟨rfl, rfl⟩
        go_wp2_with fail
        refine (F2.out w1).mono ?_
        rintro e w2 ⟨rfl, rfl⟩
        go_wp2_with (go_at_call 102; refine (fbool64 _ _).mono ?_; rintro e w3 ⟨rfl, rfl⟩)
        go_quiet ((go_at_call 102; exact Calls.quiet_of_same (fbool64' _ _)))
        go_wp2
        all_goals
          go_ret
          first | exact ⟨rfl, _, rfl⟩ | exact ⟨rfl, 0, rfl⟩
      · rw [if_neg c3]
        have c3' : ¬ (1 : Int) < (dd : Int) := by omega
        go_enter Tryz.func84, Tryz.ntmps84
        go_wp2_with fail
        refine (F1.out w).mono ?_
        rintro e w1 ⟨rfl, rfl⟩
        go_wp2_with fail
        refine (F2.out w1).mono ?_
        rintro e w2 ⟨rfl, rfl⟩
        go_wp2_with (go_at_call 102; refine (fbool64 _ _).mono ?_; rintro e w3 ⟨rfl, rfl⟩)
        go_quiet ((go_at_call 102; exact Calls.quiet_of_same (fbool64' _ _)))
        go_wp2
        all_goals
          go_ret
          first | exact ⟨rfl, _, rfl⟩ | exact ⟨rfl, 0, rfl⟩
    · have c2' : ¬ (M : Int) < (m2 : Int) := by omega
      have hsub : IntKind.u64.wrap ((M : Int) - (m2 : Int)) = (((M + 18446744073709551616 - m2) % 18446744073709551616 : Nat) : Int) := by rw [wrapU]; omega
      obtain ⟨dd, hdd⟩ : ∃ dd, (M + 18446744073709551616 - m2) % 18446744073709551616 = dd := ⟨_, rfl⟩
      rw [hdd] at hsub
      rw [if_neg c2, hdd]
      have hor : bits BinOp.or IntKind.u64 ((H : Int) / (T : Int)) 1 = ((stick (H / T) : Nat) : Int) := by
        have := or1 (H / T) (by omega)
        simpa using this
      have hor0 : bits BinOp.or IntKind.u64 ((H : Int) / (T : Int)) 0 = ((H / T : Nat) : Int) := by
        have := (bits_nat .u64 64 (by decide) wraps_u64 (H / T) 0 (by omega) (by decide)).2
        simpa using this
      by_cases c3 : dd > 1
      · rw [if_pos c3]
        go_enter Tryz.func84, Tryz.ntmps84
        go_wp2_with fail
        refine (F1.out w).mono ?_
        rintro e w1 ⟨rfl, rfl⟩
        go_wp2_with fail
        refine (F2.out w1).mono ?_
        rintro e w2 ⟨rfl, rfl⟩
        go_wp2_with (go_at_call 102; refine (fbool64 _ _).mono ?_; rintro e w3 ⟨rfl, rfl⟩)
        go_quiet ((go_at_call 102; exact Calls.quiet_of_same (fbool64' _ _)))
        go_wp2
        all_goals
          go_ret
          first | exact ⟨rfl, _, rfl⟩ | exact ⟨rfl, 0, rfl⟩
      · rw [if_neg c3]
        have c3' : ¬ (1 : Int) < (dd : Int) := by omega
        go_enter Tryz.func84, Tryz.ntmps84
        go_wp2_with fail
        refine (F1.out w).mono ?_
        rintro e w1 ⟨rfl, rfl⟩
        go_wp2_with fail
        refine (F2.out w1).mono ?_
        rintro e w2 ⟨rfl, rfl⟩
        go_wp2_with (go_at_call 102; refine (fbool64 _ _).mono ?_; rintro e w3 ⟨rfl, rfl⟩)
        go_quiet ((go_at_call 102; exact Calls.quiet_of_same (fbool64' _ _)))
        go_wp2
        all_goals
          go_ret
          first | exact ⟨rfl, _, rfl⟩ | exact ⟨rfl, 0, rfl⟩
  · have hne : (IntKind.u64.wrap ((H : Int) / (T : Int) * (T : Int)) != (H : Int)) = true := by
      rw [hwr, bne_iff_ne]
      intro h
      have h' : H / T * T = H := by exact_mod_cast h
      omega
    have hor : bits BinOp.or IntKind.u64 ((H : Int) / (T : Int)) 1 = ((stick (H / T) : Nat) : Int) := by
      have := or1 (H / T) (by omega)
      simpa using this
    simp only [c, ne_eq, not_false_eq_true, if_true]
    clear hwr hmd b4
    go_enter Tryz.func84, Tryz.ntmps84
    go_wp2_with fail
    refine (F1.out w).mono ?_
    rintro e w1 ⟨rfl, rfl⟩
    go_wp2
    go_ret
    exact ⟨rfl, 0, rfl⟩

theorem fuscale (x hi lo s k : Nat) (hx : x < 18446744073709551616) (hhi : hi < 18446744073709551616) (hhi1 : 1 ≤ hi) (hlo : lo < 18446744073709551616) (hs : s < 64) (w : World)
    (hc0 : w.cell? ⟨k, 0, none⟩ = some (.int .u64 (hi : Int))) (hc1 : w.cell? ⟨k, 1, none⟩ = some (.int .u64 (lo : Int))) (hc2 : w.cell? ⟨k, 2, none⟩ = some (.int .i64 (s : Int))) :
    Calls Tryz.prog 84 #[.int .u64 (x : Int), .pointer (some ⟨k, 0, none⟩)] w fun e w' => e = .returned (.int .u64 (us x hi lo (2 ^ s) : Nat)) ∧ ∃ m, w' = w.drewN m := by
  rw [us_eq]
  refine fuscale_aux x hi lo s k _ _ _ _ _ hx hhi hlo hs w hc0 hc1 hc2 rfl rfl rfl rfl rfl ?_ ?_ ?_ ?_
  · have : x * hi ≤ 18446744073709551615 * 18446744073709551615 := Nat.mul_le_mul (by omega) (by omega)
    exact Nat.div_lt_of_lt_mul (by omega)
  · exact Nat.mod_lt _ (by omega)
  · have : x * lo ≤ 18446744073709551615 * 18446744073709551615 := Nat.mul_le_mul (by omega) (by omega)
    exact Nat.div_lt_of_lt_mul (by omega)
  · intro h0
    have e1 := Nat.div_add_mod (x * hi) 18446744073709551616
    have h1 : x * 1 ≤ x * hi := Nat.mul_le_mul_left x hhi1
    have h2 : x * lo / 18446744073709551616 ≤ x := Nat.div_le_of_le_mul (by rw [Nat.mul_comm]; exact Nat.mul_le_mul_right x (Nat.le_of_lt hlo))
    rw [h0] at e1
    omega
end Go.Proofs.YtkkipddgkfidmaaGreatDoor
