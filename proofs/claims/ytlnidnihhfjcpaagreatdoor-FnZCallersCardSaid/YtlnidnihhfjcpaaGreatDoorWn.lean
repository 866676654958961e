/- The walk of the law FnZCallers: it answers true for every path and every line. -/
import Derived.Test.YtlnidnihhfjcpaaGreatDoorWg
import Derived.Test.YtlnidnihhfjcpaaGreatDoorWl
namespace Go.Proofs.YtlnidnihhfjcpaaGreatDoor
open Go.RowKit

theorem full_cat (s : ByteArray) (line : Int) : fullB s line = s ++ ⟨#[58]⟩ ++ ⟨(Lib.itoa line).toArray⟩ := by
  have := cat3 s 0 line
  rw [extract_all] at this
  rw [this]
  rfl

set_option maxHeartbeats 1000000 in
theorem callers_huge (file : ByteArray) (line : Int) (hs : 2147483647 < file.size) (w : World) :
    Calls Tryz.prog 4 #[.string file, .int .i64 line] w fun e w' => e = .returned (.bool true) ∧ Below w.heap.size w w' := by
  go_enter Tryz.func4, Tryz.ntmps4
  go_wp2
  go_ret
  exact ⟨rfl, Below.refl _ _⟩

set_option maxHeartbeats 1000000 in
theorem callers_long (file : ByteArray) (line : Int) (hs : file.size ≤ 2147483647) (hl : 1000 < file.size) (w : World) (htab : Tab w.heap.size w) :
    Calls Tryz.prog 4 #[.string file, .int .i64 line] w fun e w' => e = .returned (.bool true) ∧ Below w.heap.size w w' := by
  have HT := Lib.hid htab
  clear htab
  go_enter Tryz.func4, Tryz.ntmps4
  go_wp2_with fail
  refine (awakeZ w HT.out).mono ?_
  rintro e w1 ⟨rfl, g1⟩
  go_wp2
  go_ret
  exact ⟨rfl, g1⟩

set_option maxHeartbeats 1000000 in
theorem callers_in (file : ByteArray) (line : Int) (hs : file.size ≤ 1000) (h0 : -9223372036854775808 ≤ line) (h1 : line ≤ 9223372036854775807) (w : World) (htab : Tab w.heap.size w) :
    Calls Tryz.prog 4 #[.string file, .int .i64 line] w fun e w' => e = .returned (.bool true) ∧ Below w.heap.size w w' := by
  have HT := Lib.hid htab
  have hil := Lib.itoa_length_le line h0 h1
  clear htab
  go_enter Tryz.func4, Tryz.ntmps4
  go_wp2_with fail
  refine (zcallerFull file line (by omega) h0 h1 w HT.out).mono ?_
  rintro e w1 ⟨rfl, g1⟩
  have s1 := g1.size
  have B1 := Lib.hid g1
  clear g1
  rw [full_cat]
  go_wp2_with fail
  refine (itoa_any line h0 h1 w1 w.heap.size (HT.out.on B1.out)).mono ?_
  rintro e w2 ⟨rfl, g2⟩
  have s2 := g2.size
  have B2 := Lib.hid (B1.out.trans (g2.mono s1))
  clear g2
  go_wp2_with fail
  refine (zcallerShort file line (by omega) h0 h1 w2 (tab_up1 (HT.out.on B2.out) (by omega))).mono ?_
  rintro e w3 ⟨rfl, g3⟩
  have s3 := g3.size
  have B3 := Lib.hid (B2.out.trans (g3.mono (by omega)))
  clear g3
  go_wp2_with fail
  refine (zshort file line (by omega) h0 h1 w3 (tab_up1 (HT.out.on B3.out) (by omega))).mono ?_
  rintro e w4 ⟨rfl, g4⟩
  have B4 := Lib.hid (B3.out.trans (g4.mono (by omega)))
  clear g4
  go_wp2
  go_ret
  exact ⟨rfl, B4.out⟩

theorem callers (file : ByteArray) (line : Int) (h0 : -9223372036854775808 ≤ line) (h1 : line ≤ 9223372036854775807) (w : World) (htab : Tab w.heap.size w) :
    Calls Tryz.prog 4 #[.string file, .int .i64 line] w fun e w' => e = .returned (.bool true) ∧ Below w.heap.size w w' := by
  by_cases a : 2147483647 < file.size
  · exact callers_huge file line a w
  · by_cases b : 1000 < file.size
    · exact callers_long file line (by omega) b w htab
    · exact callers_in file line (by omega) h0 h1 w htab
end Go.Proofs.YtlnidnihhfjcpaaGreatDoor
