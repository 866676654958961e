/- The contracts of zap's safeAddString and Escape and of the thin package's ZEscape; the walk of the law FnZTextsParts: it answers true for every two texts. -/
import Derived.Test.YtlnidnihhfjcpaaGreatDoorWq
import Derived.Test.YtlnidnihhfjcpaaGreatDoorWl
namespace Go.Proofs.YtlnidnihhfjcpaaGreatDoor
open Go.RowKit

abbrev cfg0 : Array Value := #[noS, noS, noS, noS, noS, noS, noS, .bool false, noS, .nilFunc, .nilFunc, .nilFunc, .nilFunc, .nilFunc, noS]

set_option maxHeartbeats 1000000 in
theorem newEnc0 (w : World) :
    Calls Tryz.prog 62 #[.agg cfg0, .bool false] w fun e w' => e = .returned (.pointer (some ⟨w.heap.size + 2, 0, none⟩)) ∧ EncAt (w.heap.size + 2) w.heap.size (w.heap.size + 1) w' ∧ ZBuf w.heap.size (w.heap.size + 1) [] w' ∧ Below w.heap.size w w' ∧ w.heap.size + 2 < w'.heap.size := by
  go_enter Tryz.func62, Tryz.ntmps62
  go_wp2_with (go_at_call 53; refine (bufGet _).mono ?_; rintro e w1 ⟨rfl, rfl⟩)
  go_returns
  have e := blocks3 w (.cells #[noS, noS, noS, noS, noS, noS, noS, .bool false, .string ⟨#[10]⟩, .nilFunc, .nilFunc, .nilFunc, .nilFunc, .nilFunc, noS] 69) (.cells #[.slice none 0 0] 117) (.cells #[.pointer (some ⟨w.heap.size, 0, none⟩), .pointer (some ⟨w.heap.size + 1, 0, none⟩), .bool false, .int .i64 0] 99)
  exact ⟨rfl, e.2.2, ⟨_, e.2.1, World.ownsRow_nil _ _ _ _⟩, by go_grown, by simp⟩

set_option maxHeartbeats 1000000 in
theorem safeAdd (s : ByteArray) (hs : s.size ≤ 4000) (B j c b : Nat) (w : World) (he : EncAt j c b w) (hjb : j ≠ b) (hz : ZBuf B b [] w) (hB : B ≤ b) (hBw : B ≤ w.heap.size) (hU : UTab B w) :
    Calls Tryz.prog 63 #[.pointer (some ⟨j, 0, none⟩), .string s] w fun e w' => e = .returned (.tuple #[]) ∧ EncAt j c b w' ∧ ZBuf B b (esc s.data.toList) w' ∧ Below B w w' := by
  have hc1 : w.cell? ⟨j, 1, none⟩ = some (.pointer (some ⟨b, 0, none⟩)) := cell_of_heap he
  have HE := Lib.hid he
  have HZ := Lib.hid hz
  have HU := Lib.hid hU
  clear he hz hU
  go_enter Tryz.func63, Tryz.ntmps63
  go_wp2_with fail
  refine (safeAppend s hs B b w HZ.out hB hBw HU.out).mono ?_
  rintro e w1 ⟨rfl, g1, g2, g3⟩
  have G1 := Lib.hid (HE.out.kept g3 hjb)
  have G2 := Lib.hid g1
  have G3 := Lib.hid g2
  clear g1 g2 g3
  go_wp2
  go_returns
  exact ⟨rfl, G1.out, G2.out, G3.out⟩

set_option maxHeartbeats 1000000 in
theorem escapeZ (s : ByteArray) (hs : s.size ≤ 4000) (w : World) (hU : UTab w.heap.size w) :
    Calls Tryz.prog 32 #[.string s] w fun e w' => e = .returned (.string ⟨(esc s.data.toList).toArray⟩) ∧ Below w.heap.size w w' := by
  have HU := Lib.hid hU
  clear hU
  go_enter Tryz.func32, Tryz.ntmps32
  go_wp2_with fail
  refine (newEnc0 w).mono ?_
  rintro e w1 ⟨rfl, he, hz, hb, hs1⟩
  have H1 := Lib.hid he
  have H2 := Lib.hid hz
  have H3 := Lib.hid hb
  clear he hz hb
  go_wp2_with fail
  refine (safeAdd s hs w.heap.size (w.heap.size + 2) w.heap.size (w.heap.size + 1) w1 H1.out (by omega) H2.out (by omega) (by omega) (HU.out.on H3.out)).mono ?_
  rintro e w2 ⟨rfl, g1, g2, g3⟩
  have hd2 : w2.cell? ⟨w.heap.size + 2, 1, none⟩ = some (.pointer (some ⟨w.heap.size + 1, 0, none⟩)) := cell_of_heap g1
  have G2 := Lib.hid g2
  have G3 := Lib.hid (H3.out.trans g3)
  clear g1 g2 g3
  go_wp2_with fail
  refine (bufText w.heap.size (w.heap.size + 1) _ w2 G2.out).mono ?_
  rintro e w3 ⟨rfl, rfl⟩
  go_wp2
  go_ret
  exact ⟨rfl, G3.out⟩

set_option maxHeartbeats 1000000 in
theorem zescape (s : ByteArray) (hs : s.size ≤ 4000) (w : World) (hU : UTab w.heap.size w) :
    Calls Tryz.prog 17 #[.string s] w fun e w' => e = .returned (.string ⟨(esc s.data.toList).toArray⟩) ∧ Below w.heap.size w w' := by
  have HU := Lib.hid hU
  clear hU
  go_enter Tryz.func17, Tryz.ntmps17
  go_wp2_with fail
  refine (escapeZ s hs w HU.out).mono ?_
  rintro e w1 ⟨rfl, g1⟩
  go_wp2
  go_ret
  exact ⟨rfl, g1⟩

theorem str_cat (a b : ByteArray) : (a ++ b).data.toList = a.data.toList ++ b.data.toList := by simp
theorem arr_cat (a b : List UInt8) : (⟨a.toArray⟩ ++ ⟨b.toArray⟩ : ByteArray) = ⟨(a ++ b).toArray⟩ := by
  apply ByteArray.ext
  apply Array.toList_inj.1
  simp

set_option maxHeartbeats 1000000 in
theorem parts_huge (a b : ByteArray) (h : 2147483647 < a.size ∨ 2147483647 < b.size) (w : World) :
    Calls Tryz.prog 5 #[.string a, .string b] w fun e w' => e = .returned (.bool true) ∧ Below w.heap.size w w' := by
  by_cases h1 : 2147483647 < a.size
  · go_enter Tryz.func5, Tryz.ntmps5
    go_wp2
    go_ret
    exact ⟨rfl, Below.refl _ _⟩
  · have h2 : 2147483647 < b.size := by omega
    go_enter Tryz.func5, Tryz.ntmps5
    go_wp2
    go_ret
    exact ⟨rfl, Below.refl _ _⟩

set_option maxHeartbeats 1000000 in
theorem parts_long (a b : ByteArray) (h1 : a.size ≤ 2147483647) (h2 : b.size ≤ 2147483647) (h : 2000 < a.size + b.size) (w : World) (htab : Tab w.heap.size w) :
    Calls Tryz.prog 5 #[.string a, .string b] w fun e w' => e = .returned (.bool true) ∧ Below w.heap.size w w' := by
  have h' : (2000 : Int) < (a.size : Int) + (b.size : Int) := by omega
  have HT := Lib.hid htab
  clear htab
  go_enter Tryz.func5, Tryz.ntmps5
  go_wp2_with fail
  refine (awakeZ w HT.out).mono ?_
  rintro e w1 ⟨rfl, g1⟩
  go_wp2
  go_ret
  exact ⟨rfl, g1⟩

set_option maxHeartbeats 1000000 in
theorem parts_broken (a b : ByteArray) (h : a.size + b.size ≤ 2000) (ht : tru a.data.toList ≠ a.data.toList) (w : World) (htab : Tab w.heap.size w) (hU : UTab w.heap.size w) :
    Calls Tryz.prog 5 #[.string a, .string b] w fun e w' => e = .returned (.bool true) ∧ Below w.heap.size w w' := by
  have h1 : a.size ≤ 2000 := by omega
  have h2 : b.size ≤ 2000 := by omega
  have h' : ¬ (2000 : Int) < (a.size : Int) + (b.size : Int) := by omega
  have b1 : (!tru a.data.toList == a.toList) = true := by rw [ByteArray.toList_eq]; simp [ht]
  have HT := Lib.hid htab
  have HU := Lib.hid hU
  clear htab hU ht
  go_enter Tryz.func5, Tryz.ntmps5
  go_wp2_with fail
  refine (jtrue8 a (by omega) w HU.out).mono ?_
  rintro e w1 ⟨rfl, g1⟩
  have s1 := g1.size
  have G1 := Lib.hid g1
  clear g1
  go_wp2_with fail
  refine (awakeZ w1 (tab_up1 (HT.out.on G1.out) s1)).mono ?_
  rintro e w2 ⟨rfl, g2⟩
  have G2 := Lib.hid (G1.out.trans (g2.mono s1))
  clear g2
  go_wp2
  go_ret
  exact ⟨rfl, G2.out⟩

set_option maxHeartbeats 1000000 in
theorem parts_in (a b : ByteArray) (h : a.size + b.size ≤ 2000) (ht : tru a.data.toList = a.data.toList) (w : World) (hU : UTab w.heap.size w) :
    Calls Tryz.prog 5 #[.string a, .string b] w fun e w' => e = .returned (.bool true) ∧ Below w.heap.size w w' := by
  have h1 : a.size ≤ 2000 := by omega
  have h2 : b.size ≤ 2000 := by omega
  have h' : ¬ (2000 : Int) < (a.size : Int) + (b.size : Int) := by omega
  have b1 : (!tru a.data.toList == a.toList) = false := by rw [ByteArray.toList_eq]; simp [ht]
  have la := esc_length a.data.toList.length a.data.toList (Nat.le_refl _)
  have lb := esc_length b.data.toList.length b.data.toList (Nat.le_refl _)
  have ea : a.data.toList.length = a.size := by simp
  have eb : b.data.toList.length = b.size := by simp
  have la' : (esc a.data.toList).length ≤ 12000 := by omega
  have lb' : (esc b.data.toList).length ≤ 12000 := by omega
  have HQ := Lib.hid (show (⟨(esc (a ++ b).data.toList).toArray⟩ : ByteArray) = ⟨(esc a.data.toList).toArray⟩ ++ ⟨(esc b.data.toList).toArray⟩ by
    rw [str_cat, esc_parts a.data.toList.length a.data.toList b.data.toList (Nat.le_refl _) ht]
    exact (arr_cat _ _).symm)
  have HU := Lib.hid hU
  clear hU ht la lb ea eb
  go_enter Tryz.func5, Tryz.ntmps5
  go_wp2_with fail
  refine (jtrue8 a (by omega) w HU.out).mono ?_
  rintro e w1 ⟨rfl, g1⟩
  have s1 := g1.size
  have G1 := Lib.hid g1
  clear g1
  go_wp2_with fail
  refine (zescape (a ++ b) (by simp; omega) w1 ((HU.out.on G1.out).up s1)).mono ?_
  rintro e w2 ⟨rfl, g2⟩
  have s2 := g2.size
  have G2 := Lib.hid (G1.out.trans (g2.mono s1))
  clear g2
  rw [HQ.out]
  go_wp2_with fail
  refine (zescape a (by omega) w2 ((HU.out.on G2.out).up (by omega))).mono ?_
  rintro e w3 ⟨rfl, g3⟩
  have s3 := g3.size
  have G3 := Lib.hid (G2.out.trans (g3.mono (by omega)))
  clear g3
  go_wp2_with fail
  refine (zescape b (by omega) w3 ((HU.out.on G3.out).up (by omega))).mono ?_
  rintro e w4 ⟨rfl, g4⟩
  have s4 := g4.size
  have G4 := Lib.hid (G3.out.trans (g4.mono (by omega)))
  clear g4
  go_wp2_with fail
  refine (zescape ⟨#[97]⟩ (by show 1 ≤ 4000; omega) w4 ((HU.out.on G4.out).up (by omega))).mono ?_
  rintro e w5 ⟨rfl, g5⟩
  have G5 := Lib.hid (G4.out.trans (g5.mono (by omega)))
  clear g5
  rw [show esc (⟨#[97]⟩ : ByteArray).data.toList = [97] by decide]
  go_wp2
  go_ret
  exact ⟨rfl, G5.out⟩

theorem parts (a b : ByteArray) (w : World) (htab : Tab w.heap.size w) (hU : UTab w.heap.size w) :
    Calls Tryz.prog 5 #[.string a, .string b] w fun e w' => e = .returned (.bool true) ∧ Below w.heap.size w w' := by
  by_cases h1 : 2147483647 < a.size ∨ 2147483647 < b.size
  · exact parts_huge a b h1 w
  · by_cases h2 : 2000 < a.size + b.size
    · exact parts_long a b (by omega) (by omega) h2 w htab
    · by_cases h3 : tru a.data.toList = a.data.toList
      · exact parts_in a b (by omega) h3 w hU
      · exact parts_broken a b (by omega) h3 w htab hU
end Go.Proofs.YtlnidnihhfjcpaaGreatDoor
