/- Leaf contracts of the float seat: the logarithms, the roundings of an unrounded number. No conditions beyond each theorem's own. -/
import Derived.Test.YtkkipddgkfidmaaGreatDoorQd
import Derived.Test.YtkkipddgkfidmaaGreatDoorShelf
import Derived.WalkSpells
import Derived.WalkLawsBesides
import Derived.Laws.BitsLemmas
import Derived.Lib.EndianBits
import Derived.Lib.QuoteBits
namespace Go.Proofs.YtkkipddgkfidmaaGreatDoor
open Go.RowKit

theorem flog10 (x : Int) (h0 : -3000 ≤ x) (h1 : x ≤ 3000) (w : World) :
    Calls Tryz.prog 67 #[.int .i64 x] w fun e w' => e = .returned (.int .i64 (l10 x)) ∧ w = w' := by
  go_enter Tryz.func67, Tryz.ntmps67
  go_wp2
  go_ret
  exact ⟨rfl, rfl⟩
theorem flog2 (x : Int) (h0 : -3000 ≤ x) (h1 : x ≤ 3000) (w : World) :
    Calls Tryz.prog 83 #[.int .i64 x] w fun e w' => e = .returned (.int .i64 (l2 x)) ∧ w = w' := by
  go_enter Tryz.func83, Tryz.ntmps83
  go_wp2
  go_ret
  exact ⟨rfl, rfl⟩
theorem fskew (x : Int) (h0 : -3000 ≤ x) (h1 : x ≤ 3000) (w : World) :
    Calls Tryz.prog 81 #[.int .i64 x] w fun e w' => e = .returned (.int .i64 (sk x)) ∧ w = w' := by
  go_enter Tryz.func81, Tryz.ntmps81
  go_wp2
  go_ret
  exact ⟨rfl, rfl⟩
theorem fbool64 (b : Bool) (w : World) :
    Calls Tryz.prog 102 #[.bool b] w fun e w' => e = .returned (.int .u64 (if b then 1 else 0)) ∧ w = w' := by
  cases b
  all_goals
    go_enter Tryz.func102, Tryz.ntmps102
    go_wp2
    go_ret
    exact ⟨rfl, rfl⟩
theorem fboolun (b : Bool) (w : World) :
    Calls Tryz.prog 103 #[.bool b] w fun e w' => e = .returned (.int .u64 (if b then 1 else 0)) ∧ w = w' := by
  cases b
  all_goals
    go_enter Tryz.func103, Tryz.ntmps103
    go_wp2
    go_ret
    exact ⟨rfl, rfl⟩
theorem wrapU (n : Int) : IntKind.u64.wrap n = n % 18446744073709551616 := by simp [IntKind.wrap, IntKind.bits, IntKind.signed]
theorem fnudge (u : Nat) (hu : u < 4611686018427387904) (d : Int) (h0 : -1 ≤ d) (h1 : d ≤ 1) (hud : 0 ≤ (u : Int) + d) (w : World) :
    Calls Tryz.prog 85 #[.int .u64 u, .int .i64 d] w fun e w' => e = .returned (.int .u64 ((u : Int) + d)) ∧ w = w' := by
  have hw : IntKind.u64.wrap ((u : Int) + IntKind.u64.wrap d) = (u : Int) + d := by rw [wrapU, wrapU]; omega
  go_enter Tryz.func85, Tryz.ntmps85
  go_wp2
  go_ret
  exact ⟨rfl, rfl⟩
theorem fceil (u : Nat) (hu : u < 9223372036854775808) (w : World) :
    Calls Tryz.prog 86 #[.int .u64 u] w fun e w' => e = .returned (.int .u64 ((u + 3) / 4 : Nat)) ∧ w = w' := by
  go_enter Tryz.func86, Tryz.ntmps86
  go_wp2
  go_ret
  exact ⟨rfl, rfl⟩
theorem ffloor (u : Nat) (hu : u < 9223372036854775808) (w : World) :
    Calls Tryz.prog 87 #[.int .u64 u] w fun e w' => e = .returned (.int .u64 (u / 4 : Nat)) ∧ w = w' := by
  go_enter Tryz.func87, Tryz.ntmps87
  go_wp2
  go_ret
  exact ⟨rfl, rfl⟩
theorem and1 (u : Nat) (h : u < 18446744073709551616) : bits .and .u64 (u : Int) 1 = ((u % 2 : Nat) : Int) := by
  have := (bits_nat .u64 64 (by decide) wraps_u64 u 1 (by omega) (by decide)).1
  rw [Nat.and_one_is_mod] at this
  exact this
theorem or1 (u : Nat) (h : u < 18446744073709551616) : bits .or .u64 (u : Int) 1 = ((stick u : Nat) : Int) := by
  have := (bits_nat .u64 64 (by decide) wraps_u64 u 1 (by omega) (by decide)).2
  rw [Lib.or_one_nat, Nat.mul_comm] at this
  exact this
theorem fround (u : Nat) (hu : u < 9223372036854775808) (w : World) :
    Calls Tryz.prog 88 #[.int .u64 u] w fun e w' => e = .returned (.int .u64 (round4 u)) ∧ w = w' := by
  have ha : bits .and .u64 ((u : Int) / 4) 1 = ((u / 4 % 2 : Nat) : Int) := and1 (u / 4) (by omega)
  have hw : IntKind.u64.wrap ((u : Int) + 1 + ((u / 4 % 2 : Nat) : Int)) = (u : Int) + 1 + ((u / 4 % 2 : Nat) : Int) := by rw [wrapU]; omega
  go_enter Tryz.func88, Tryz.ntmps88
  go_wp2
  go_ret
  exact ⟨rfl, rfl⟩
end Go.Proofs.YtkkipddgkfidmaaGreatDoor
