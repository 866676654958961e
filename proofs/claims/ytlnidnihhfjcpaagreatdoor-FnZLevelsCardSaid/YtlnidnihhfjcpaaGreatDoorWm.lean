/- The walk of the law FnZLevels: it answers true for every two levels. -/
import Derived.Test.YtlnidnihhfjcpaaGreatDoorWl
namespace Go.Proofs.YtlnidnihhfjcpaaGreatDoor
open Go.RowKit

theorem up_low {n : Int} (h0 : -1 ≤ n) (h1 : n ≤ 5) : upB (lvB n) = lvU n := by
  rcases seven h0 h1 with rfl | rfl | rfl | rfl | rfl | rfl | rfl <;> decide +kernel
theorem low_size {n : Int} (h0 : -1 ≤ n) (h1 : n ≤ 5) : (lvB n).size ≤ 6 := by
  rcases seven h0 h1 with rfl | rfl | rfl | rfl | rfl | rfl | rfl <;> decide +kernel

set_option maxHeartbeats 1000000 in
theorem levels_in (a b : Int) (ha0 : -1 ≤ a) (ha1 : a ≤ 5) (hb0 : -1 ≤ b) (hb1 : b ≤ 5) (w : World) :
    Calls Tryz.prog 3 #[.int .i64 a, .int .i64 b] w fun e w' => e = .returned (.bool true) ∧ Below w.heap.size w w' := by
  have hz := low_size ha0 ha1
  have HU := Lib.hid (up_low ha0 ha1)
  go_enter Tryz.func3, Tryz.ntmps3
  go_wp2_with fail
  refine (zlevel_yes a ha0 ha1 w).mono ?_
  rintro e w1 ⟨rfl, g1⟩
  have s1 := g1.size
  have B1 := Lib.hid g1
  clear g1
  go_wp2_with fail
  refine (zlevel_yes b hb0 hb1 w1).mono ?_
  rintro e w2 ⟨rfl, g2⟩
  have s2 := g2.size
  have B2 := Lib.hid (B1.out.trans (g2.mono s1))
  clear g2
  go_wp2_with fail
  refine (zlevelLow a ha0 ha1 w2).mono ?_
  rintro e w3 ⟨rfl, g3⟩
  have s3 := g3.size
  have B3 := Lib.hid (B2.out.trans (g3.mono (by omega)))
  clear g3
  go_wp2_with fail
  refine (zlevelCap a ha0 ha1 w3).mono ?_
  rintro e w4 ⟨rfl, g4⟩
  have s4 := g4.size
  have B4 := Lib.hid (B3.out.trans (g4.mono (by omega)))
  clear g4
  go_wp2_with fail
  refine (zupper (lvB a) (by omega) w4).mono ?_
  rintro e w5 ⟨rfl, g5⟩
  have s5 := g5.size
  have B5 := Lib.hid (B4.out.trans (g5.mono (by omega)))
  clear g5
  rw [HU.out]
  go_wp2_with fail
  refine (zenabled a b ha0 ha1 hb0 hb1 w5).mono ?_
  rintro e w6 ⟨rfl, rfl⟩
  go_wp2
  go_ret
  exact ⟨rfl, B5.out⟩

set_option maxHeartbeats 1000000 in
theorem levels_out1 (a b : Int) (ha : a < -1 ∨ 5 < a) (w : World) (htab : Tab w.heap.size w) :
    Calls Tryz.prog 3 #[.int .i64 a, .int .i64 b] w fun e w' => e = .returned (.bool true) ∧ Below w.heap.size w w' := by
  have HA := Lib.hid ha
  have HT := Lib.hid htab
  clear ha htab
  by_cases hb : b < -1 ∨ 5 < b
  · have HB := Lib.hid hb
    clear hb
    go_enter Tryz.func3, Tryz.ntmps3
    go_wp2_with fail
    refine (zlevel_no a HA.out w).mono ?_
    rintro e w1 ⟨rfl, g1⟩
    have s1 := g1.size
    have B1 := Lib.hid g1
    clear g1
    go_wp2_with fail
    refine (zlevel_no b HB.out w1).mono ?_
    rintro e w2 ⟨rfl, g2⟩
    have s2 := g2.size
    have B2 := Lib.hid (B1.out.trans (g2.mono s1))
    clear g2
    go_wp2_with fail
    refine (awakeZ w2 (tab_up1 (HT.out.on B2.out) (by omega))).mono ?_
    rintro e w3 ⟨rfl, g3⟩
    have B3 := Lib.hid (B2.out.trans (g3.mono (by omega)))
    clear g3
    go_wp2
    go_ret
    exact ⟨rfl, B3.out⟩
  · have hb0 : -1 ≤ b := by omega
    have hb1 : b ≤ 5 := by omega
    clear hb
    go_enter Tryz.func3, Tryz.ntmps3
    go_wp2_with fail
    refine (zlevel_no a HA.out w).mono ?_
    rintro e w1 ⟨rfl, g1⟩
    have s1 := g1.size
    have B1 := Lib.hid g1
    clear g1
    go_wp2_with fail
    refine (zlevel_yes b hb0 hb1 w1).mono ?_
    rintro e w2 ⟨rfl, g2⟩
    have s2 := g2.size
    have B2 := Lib.hid (B1.out.trans (g2.mono s1))
    clear g2
    go_wp2_with fail
    refine (awakeZ w2 (tab_up1 (HT.out.on B2.out) (by omega))).mono ?_
    rintro e w3 ⟨rfl, g3⟩
    have B3 := Lib.hid (B2.out.trans (g3.mono (by omega)))
    clear g3
    go_wp2
    go_ret
    exact ⟨rfl, B3.out⟩

set_option maxHeartbeats 1000000 in
theorem levels_out2 (a b : Int) (ha0 : -1 ≤ a) (ha1 : a ≤ 5) (hb : b < -1 ∨ 5 < b) (w : World) (htab : Tab w.heap.size w) :
    Calls Tryz.prog 3 #[.int .i64 a, .int .i64 b] w fun e w' => e = .returned (.bool true) ∧ Below w.heap.size w w' := by
  have HB := Lib.hid hb
  have HT := Lib.hid htab
  clear hb htab
  go_enter Tryz.func3, Tryz.ntmps3
  go_wp2_with fail
  refine (zlevel_yes a ha0 ha1 w).mono ?_
  rintro e w1 ⟨rfl, g1⟩
  have s1 := g1.size
  have B1 := Lib.hid g1
  clear g1
  go_wp2_with fail
  refine (zlevel_no b HB.out w1).mono ?_
  rintro e w2 ⟨rfl, g2⟩
  have s2 := g2.size
  have B2 := Lib.hid (B1.out.trans (g2.mono s1))
  clear g2
  go_wp2_with fail
  refine (awakeZ w2 (tab_up1 (HT.out.on B2.out) (by omega))).mono ?_
  rintro e w3 ⟨rfl, g3⟩
  have B3 := Lib.hid (B2.out.trans (g3.mono (by omega)))
  clear g3
  go_wp2
  go_ret
  exact ⟨rfl, B3.out⟩

theorem levels (a b : Int) (w : World) (htab : Tab w.heap.size w) :
    Calls Tryz.prog 3 #[.int .i64 a, .int .i64 b] w fun e w' => e = .returned (.bool true) ∧ Below w.heap.size w w' := by
  by_cases ha : a < -1 ∨ 5 < a
  · exact levels_out1 a b ha w htab
  · by_cases hb : b < -1 ∨ 5 < b
    · exact levels_out2 a b (by omega) (by omega) hb w htab
    · exact levels_in a b (by omega) (by omega) (by omega) (by omega) w
end Go.Proofs.YtlnidnihhfjcpaaGreatDoor
