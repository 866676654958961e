/- Leaf contracts of the zap seat: the texts of levels, the comparison of levels, the encoder that a number names, the table of the reference. No conditions beyond each theorem's own. -/
import Derived.Test.YtlnidnihhfjcpaaGreatDoorProg
import Derived.WalkKit
import Derived.Handy
import Derived.WalkSpells
import Derived.WalkLawsBesides
namespace Go.Proofs.YtlnidnihhfjcpaaGreatDoor
open Go.RowKit

/-- The names of the seven levels, in small letters. -/
def lvB : Int → ByteArray
  | .negSucc 0 => ⟨#[100, 101, 98, 117, 103]⟩
  | .ofNat 0 => ⟨#[105, 110, 102, 111]⟩
  | .ofNat 1 => ⟨#[119, 97, 114, 110]⟩
  | .ofNat 2 => ⟨#[101, 114, 114, 111, 114]⟩
  | .ofNat 3 => ⟨#[100, 112, 97, 110, 105, 99]⟩
  | .ofNat 4 => ⟨#[112, 97, 110, 105, 99]⟩
  | .ofNat 5 => ⟨#[102, 97, 116, 97, 108]⟩
  | _ => ⟨#[]⟩
/-- The same in great letters. -/
def lvU : Int → ByteArray
  | .negSucc 0 => ⟨#[68, 69, 66, 85, 71]⟩
  | .ofNat 0 => ⟨#[73, 78, 70, 79]⟩
  | .ofNat 1 => ⟨#[87, 65, 82, 78]⟩
  | .ofNat 2 => ⟨#[69, 82, 82, 79, 82]⟩
  | .ofNat 3 => ⟨#[68, 80, 65, 78, 73, 67]⟩
  | .ofNat 4 => ⟨#[80, 65, 78, 73, 67]⟩
  | .ofNat 5 => ⟨#[70, 65, 84, 65, 76]⟩
  | _ => ⟨#[]⟩

theorem seven {n : Int} (h0 : -1 ≤ n) (h1 : n ≤ 5) : n = -1 ∨ n = 0 ∨ n = 1 ∨ n = 2 ∨ n = 3 ∨ n = 4 ∨ n = 5 := by omega

set_option maxHeartbeats 400000 in
theorem lvString (n : Int) (h0 : -1 ≤ n) (h1 : n ≤ 5) (w : World) :
    Calls Tryz.prog 82 #[.int .i8 n] w fun e w' => e = .returned (.string (lvB n)) ∧ w = w' := by
  rcases seven h0 h1 with rfl | rfl | rfl | rfl | rfl | rfl | rfl
  all_goals
    go_enter Tryz.func82, Tryz.ntmps82
    go_wp2
    go_ret
    exact ⟨rfl, rfl⟩

set_option maxHeartbeats 400000 in
theorem lvCapital (n : Int) (h0 : -1 ≤ n) (h1 : n ≤ 5) (w : World) :
    Calls Tryz.prog 83 #[.int .i8 n] w fun e w' => e = .returned (.string (lvU n)) ∧ w = w' := by
  rcases seven h0 h1 with rfl | rfl | rfl | rfl | rfl | rfl | rfl
  all_goals
    go_enter Tryz.func83, Tryz.ntmps83
    go_wp2
    go_ret
    exact ⟨rfl, rfl⟩

set_option maxHeartbeats 400000 in
theorem zlevel_yes (n : Int) (h0 : -1 ≤ n) (h1 : n ≤ 5) (w : World) :
    Calls Tryz.prog 8 #[.int .i64 n] w fun e w' => e = .returned (.tuple #[.string (lvB n), .bool true]) ∧ Below w.heap.size w w' := by
  rcases seven h0 h1 with rfl | rfl | rfl | rfl | rfl | rfl | rfl
  all_goals
    go_enter Tryz.func8, Tryz.ntmps8
    go_wp2
    go_ret2
    exact ⟨rfl, by go_grown⟩

set_option maxHeartbeats 400000 in
theorem zlevel_no (n : Int) (h : n < -1 ∨ 5 < n) (w : World) :
    Calls Tryz.prog 8 #[.int .i64 n] w fun e w' => e = .returned (.tuple #[.string ⟨#[]⟩, .bool false]) ∧ Below w.heap.size w w' := by
  rcases h with h | h
  · go_enter Tryz.func8, Tryz.ntmps8
    go_wp2
    go_ret2
    exact ⟨rfl, by go_grown⟩
  · have h' : ¬ n < -1 := by omega
    go_enter Tryz.func8, Tryz.ntmps8
    go_wp2
    go_ret2
    exact ⟨rfl, by go_grown⟩

set_option maxHeartbeats 400000 in
theorem zenabled (a b : Int) (ha0 : -1 ≤ a) (ha1 : a ≤ 5) (hb0 : -1 ≤ b) (hb1 : b ≤ 5) (w : World) :
    Calls Tryz.prog 12 #[.int .i64 a, .int .i64 b] w fun e w' => e = .returned (.bool (decide (a ≤ b))) ∧ w = w' := by
  go_enter Tryz.func12, Tryz.ntmps12
  go_wp2
  go_ret
  exact ⟨rfl, rfl⟩

end Go.Proofs.YtlnidnihhfjcpaaGreatDoor
