/- The contracts of zap's LevelText and of the thin package's ZLevelText for the seven levels. -/
import Derived.Test.YtlnidnihhfjcpaaGreatDoorWh
namespace Go.Proofs.YtlnidnihhfjcpaaGreatDoor
open Go.RowKit

theorem told_string (s : ByteArray) (w : World) : (Instr.typeAssert (.iface 9 (.string s)) 20 9 true).run Tryz.prog w = .ok (.tuple #[.string s, .bool true]) w := by kernel_rfl

set_option maxRecDepth 100000 in
set_option maxHeartbeats 1000000 in
theorem levelTextLow (n : Int) (h0 : -1 ≤ n) (h1 : n ≤ 5) (w : World) :
    Calls Tryz.prog 26 #[.int .i8 n, .func (.func 48) #[] #[]] w fun e w' => e = .returned (.string (lvB n)) ∧ Below w.heap.size w w' := by
  have ht := told_string (lvB n)
  go_enter Tryz.func26, Tryz.ntmps26
  go_wp2_with fail
  refine (sliceEnc w).mono ?_
  rintro e w1 ⟨rfl, hz1, hb1, hs1⟩
  have Z1 := Lib.hid hz1
  have B1 := Lib.hid hb1
  clear hz1 hb1
  go_wp2_with fail
  refine (lowerEnc n h0 h1 w.heap.size (w.heap.size + 1) w1 Z1.out (by omega) (by omega)).mono ?_
  rintro e w2 ⟨rfl, hz2, hb2⟩
  obtain ⟨g, cap, hc, hx⟩ := hz2.one
  have B2 := Lib.hid (B1.out.trans hb2)
  clear hz2 hb2
  go_wp2
  go_ret
  exact ⟨rfl, B2.out⟩

set_option maxRecDepth 100000 in
set_option maxHeartbeats 1000000 in
theorem levelTextCap (n : Int) (h0 : -1 ≤ n) (h1 : n ≤ 5) (w : World) :
    Calls Tryz.prog 26 #[.int .i8 n, .func (.func 49) #[] #[]] w fun e w' => e = .returned (.string (lvU n)) ∧ Below w.heap.size w w' := by
  have ht := told_string (lvU n)
  go_enter Tryz.func26, Tryz.ntmps26
  go_wp2_with fail
  refine (sliceEnc w).mono ?_
  rintro e w1 ⟨rfl, hz1, hb1, hs1⟩
  have Z1 := Lib.hid hz1
  have B1 := Lib.hid hb1
  clear hz1 hb1
  go_wp2_with fail
  refine (capitalEnc n h0 h1 w.heap.size (w.heap.size + 1) w1 Z1.out (by omega) (by omega)).mono ?_
  rintro e w2 ⟨rfl, hz2, hb2⟩
  obtain ⟨g, cap, hc, hx⟩ := hz2.one
  have B2 := Lib.hid (B1.out.trans hb2)
  clear hz2 hb2
  go_wp2
  go_ret
  exact ⟨rfl, B2.out⟩

theorem enc1 (w : World) : Calls Tryz.prog 25 #[.int .i64 1] w fun e w' => e = .returned (.func (.func 48) #[] #[]) ∧ w = w' := by
  go_enter Tryz.func25, Tryz.ntmps25
  go_wp2
  go_ret
  exact ⟨rfl, rfl⟩
theorem enc2 (w : World) : Calls Tryz.prog 25 #[.int .i64 2] w fun e w' => e = .returned (.func (.func 49) #[] #[]) ∧ w = w' := by
  go_enter Tryz.func25, Tryz.ntmps25
  go_wp2
  go_ret
  exact ⟨rfl, rfl⟩
theorem some48 (w : World) : (binOp .eql 44 (.func (.func 48) #[] #[]) .nilFunc).run Tryz.prog w = .ok (.bool false) w := by kernel_rfl
theorem some49 (w : World) : (binOp .eql 44 (.func (.func 49) #[] #[]) .nilFunc).run Tryz.prog w = .ok (.bool false) w := by kernel_rfl

set_option maxRecDepth 100000 in
set_option maxHeartbeats 1000000 in
theorem zlevelLow (n : Int) (h0 : -1 ≤ n) (h1 : n ≤ 5) (w : World) :
    Calls Tryz.prog 10 #[.int .i64 n, .int .i64 1] w fun e w' => e = .returned (.string (lvB n)) ∧ Below w.heap.size w w' := by
  have hq := some48
  go_enter Tryz.func10, Tryz.ntmps10
  go_wp2_with (first | (go_at_call 25; refine (enc1 w).mono ?_; rintro e w1 ⟨rfl, rfl⟩) | (go_at_call 26; refine (levelTextLow n h0 h1 w).mono ?_; rintro e w1 ⟨rfl, hb1⟩))
  go_ret
  exact ⟨rfl, hb1⟩

set_option maxRecDepth 100000 in
set_option maxHeartbeats 1000000 in
theorem zlevelCap (n : Int) (h0 : -1 ≤ n) (h1 : n ≤ 5) (w : World) :
    Calls Tryz.prog 10 #[.int .i64 n, .int .i64 2] w fun e w' => e = .returned (.string (lvU n)) ∧ Below w.heap.size w w' := by
  have hq := some49
  go_enter Tryz.func10, Tryz.ntmps10
  go_wp2_with (first | (go_at_call 25; refine (enc2 w).mono ?_; rintro e w1 ⟨rfl, rfl⟩) | (go_at_call 26; refine (levelTextCap n h0 h1 w).mono ?_; rintro e w1 ⟨rfl, hb1⟩))
  go_ret
  exact ⟨rfl, hb1⟩
end Go.Proofs.YtlnidnihhfjcpaaGreatDoor
