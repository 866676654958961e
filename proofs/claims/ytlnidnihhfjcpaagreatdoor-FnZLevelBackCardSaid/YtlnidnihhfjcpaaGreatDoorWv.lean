/- The contract of the reference's ZLevelRead. -/
import Derived.Test.YtlnidnihhfjcpaaGreatDoorWu
namespace Go.Proofs.YtlnidnihhfjcpaaGreatDoor
open Go.RowKit

theorem readU_hit {k : Int} {l : List UInt8} (h0 : -1 ≤ k) (h1 : k ≤ 5) (h : (lvU k).data.toList = l) : readU l = some k := by
  subst h
  rcases seven h0 h1 with rfl | rfl | rfl | rfl | rfl | rfl | rfl <;> decide
theorem readU_miss {l : List UInt8} (h : ∀ j, -1 ≤ j → j < 6 → (lvU j).data.toList ≠ l) : readU l = if l = [] then some 0 else if l = [87, 65, 82, 78, 73, 78, 71] then some 1 else none := by
  have e0 : nDebug.map upq = (lvU (-1)).data.toList := by decide
  have e1 : nInfo.map upq = (lvU 0).data.toList := by decide
  have e2 : nWarn.map upq = (lvU 1).data.toList := by decide
  have e3 : nError.map upq = (lvU 2).data.toList := by decide
  have e4 : nDpanic.map upq = (lvU 3).data.toList := by decide
  have e5 : nPanic.map upq = (lvU 4).data.toList := by decide
  have e6 : nFatal.map upq = (lvU 5).data.toList := by decide
  unfold readU
  rw [e0, e1, e2, e3, e4, e5, e6, if_neg (h (-1) (by decide) (by decide)), if_neg (h 0 (by decide) (by decide)), if_neg (h 1 (by decide) (by decide)), if_neg (h 2 (by decide) (by decide)), if_neg (h 3 (by decide) (by decide)), if_neg (h 4 (by decide) (by decide)), if_neg (h 5 (by decide) (by decide))]
  rfl
theorem lvB_upB {k : Int} (h0 : -1 ≤ k) (h1 : k ≤ 5) : upB (lvB k) = lvU k ∧ (lvB k).size ≤ 6 := by
  rcases seven h0 h1 with rfl | rfl | rfl | rfl | rfl | rfl | rfl <;> decide +kernel

set_option maxHeartbeats 2000000 in
theorem zlevelRead (s : ByteArray) (hs : s.size ≤ 1000) (w : World) :
    Calls Tryz.prog 18 #[.string s] w fun e w' => ((∃ n, readU (upB s).data.toList = some n ∧ e = .returned (.tuple #[.int .i64 n, .bool true])) ∨ (readU (upB s).data.toList = none ∧ e = .returned (.tuple #[.int .i64 1, .bool false]))) ∧ Below w.heap.size w w' := by
  obtain ⟨u, hu⟩ : ∃ u, upB s = u := ⟨_, rfl⟩
  rw [hu]
  go_enter Tryz.func18, Tryz.ntmps18
  go_wp2_with fail
  refine (zupper s (by omega) w).mono ?_
  rintro e w1 ⟨rfl, g1⟩
  have s1 := g1.size
  have B1 := Lib.hid g1
  clear g1
  rw [hu]
  clear hu
  go_wp2
  go_loopw [4] (fun n wr => ∃ k : Int, -1 ≤ k ∧ k ≤ 6 ∧ n = .int .i64 k ∧ (∀ j, -1 ≤ j → j < k → (lvU j).data.toList ≠ u.data.toList) ∧ Below w.heap.size w wr) (fun n _ => (6 - intOf n).toNat)
  case atStart => exact ⟨-1, by omega, by omega, rfl, fun j h0 h1 => by omega, B1.out⟩
  case round =>
    obtain ⟨k, hk0, hk1, rfl, hj, hb⟩ := hrel
    have hbs := hb.size
    have HB := Lib.hid hb
    have HJ := Lib.hid hj
    clear hb hj
    by_cases hlt : k ≤ 5
    · go_wp2_with fail
      refine (zlevel_yes k hk0 hlt wr).mono ?_
      rintro e w2 ⟨rfl, g2⟩
      have s2 := g2.size
      have B2 := Lib.hid (HB.out.trans (g2.mono (by omega)))
      clear g2
      go_wp2_with fail
      refine (zupper (lvB k) (by have := (lvB_upB hk0 hlt).2; omega) w2).mono ?_
      rintro e w3 ⟨rfl, g3⟩
      have s3 := g3.size
      have B3 := Lib.hid (B2.out.trans (g3.mono (by omega)))
      clear g3
      rw [(lvB_upB hk0 hlt).1]
      by_cases he : (lvU k).data.toList = u.data.toList
      · have hr := readU_hit hk0 hlt he
        have hu : lvU k = u := bytes_eq he
        have HR := Lib.hid hr
        rw [hu]
        clear hr he hu
        go_wp2
        go_ret2
        exact ⟨.inl ⟨_, HR.out, rfl⟩, B3.out⟩
      · have hne : ((lvU k).toList == u.toList) = false := by
          rw [beq_eq_false_iff_ne, ByteArray.toList_eq, ByteArray.toList_eq]; exact he
        have HN := Lib.hid he
        clear he
        go_wp2
        go_roundw
        case rel =>
          refine ⟨k + 1, by omega, by omega, rfl, fun j h0 h1 => ?_, B3.out⟩
          by_cases hjk : j < k
          · exact HJ.out j h0 hjk
          · obtain rfl : j = k := by omega
            exact HN.out
        case measure => show (6 - (k + 1)).toNat < (6 - k).toNat; omega
    · obtain rfl : k = 6 := by omega
      have hm := readU_miss HJ.out
      by_cases h1 : u.data.toList = []
      · obtain rfl := of_list h1
        rw [if_pos rfl] at hm
        have HM := Lib.hid hm
        clear hm h1
        go_wp2
        go_ret2
        exact ⟨.inl ⟨_, HM.out, rfl⟩, HB.out⟩
      · rw [if_neg h1] at hm
        have k3 : u.toList.isEmpty = false := by
          rw [ByteArray.toList_eq]
          cases e : u.data.toList with
          | nil => exact absurd e h1
          | cons _ _ => rfl
        by_cases h2 : u.data.toList = [87, 65, 82, 78, 73, 78, 71]
        · obtain rfl := of_list h2
          rw [if_pos rfl] at hm
          have HM := Lib.hid hm
          clear hm h1 h2 k3
          go_wp2
          go_ret2
          exact ⟨.inl ⟨_, HM.out, rfl⟩, HB.out⟩
        · rw [if_neg h2] at hm
          have k4 : (u.toList == [87, 65, 82, 78, 73, 78, 71]) = false := by
            rw [beq_eq_false_iff_ne, ByteArray.toList_eq]; exact h2
          have HM := Lib.hid hm
          clear hm h1 h2
          go_wp2
          go_ret2
          exact ⟨.inr ⟨HM.out, rfl⟩, HB.out⟩
end Go.Proofs.YtlnidnihhfjcpaaGreatDoor
