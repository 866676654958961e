/- The contract of an entry's caller: TrimmedPath; of the thin package's ZCallerText; of the reference's ZShort. -/
import Derived.Test.YtlnidnihhfjcpaaGreatDoorWe
namespace Go.Proofs.YtlnidnihhfjcpaaGreatDoor
open Go.RowKit

theorem tab_up {B B' : Nat} {w : World} (h : Tab B w) (hB : B ≤ B') : Tab B' w := fun w' hb => h w' (hb.mono hB)

theorem lastAt (s : ByteArray) (r : Int) (h : Lib.lastIndexByte s 47 = r) (hs : s.size < 4611686018427387904) (w : World) :
    Calls Tryz.prog 59 #[.string s, .int .u8 47] w fun e w' => e = .returned (.int .i64 r) ∧ w = w' :=
  (Tryz.strings_LastIndexByte s 47 hs w).mono fun _ _ ⟨he, hw⟩ => ⟨by rw [he, h], hw.symm⟩

set_option maxHeartbeats 1000000 in
theorem trim_none (file : ByteArray) (line : Int) (hf : file.size ≤ 140737488355000) (h0 : -9223372036854775808 ≤ line) (h1 : line ≤ 9223372036854775807) (hl : Lib.lastIndexByte file 47 = -1) (w : World) (htab : Tab w.heap.size w) :
    Calls Tryz.prog 29 #[.agg (callerCells file line)] w fun e w' => e = .returned (.string ⟨(file.data.toList ++ 58 :: Lib.itoa line).toArray⟩) ∧ Below w.heap.size w w' := by
  have HT := Lib.hid htab
  have HL := Lib.hid hl
  clear htab hl
  go_enter Tryz.func29, Tryz.ntmps29
  go_wp2_with fail
  refine (lastAt _ _ HL.out (by omega) _).mono ?_
  rintro e w1 ⟨rfl, rfl⟩
  go_wp2_with fail
  refine (fullPath file line hf h0 h1 _ (by simp; exact tab_up (HT.out.on (by go_grown)) (by omega))).mono ?_
  rintro e w2 ⟨rfl, hb2⟩
  have B2 := Lib.hid hb2
  clear hb2
  go_wp2
  go_ret
  exact ⟨rfl, (show Below w.heap.size w _ by go_grown).trans (B2.out.mono (by simp))⟩

set_option maxHeartbeats 1000000 in
theorem trim_one (file : ByteArray) (line : Int) (hf : file.size ≤ 140737488355000) (h0 : -9223372036854775808 ≤ line) (h1 : line ≤ 9223372036854775807) (i : Nat) (hi : i < file.size) (hl : Lib.lastIndexByte file 47 = i) (hl2 : Lib.lastIndexByte (file.extract 0 i) 47 = -1) (w : World) (htab : Tab w.heap.size w) :
    Calls Tryz.prog 29 #[.agg (callerCells file line)] w fun e w' => e = .returned (.string ⟨(file.data.toList ++ 58 :: Lib.itoa line).toArray⟩) ∧ Below w.heap.size w w' := by
  have HT := Lib.hid htab
  have HL := Lib.hid hl
  have HL2 := Lib.hid hl2
  clear htab hl hl2
  go_enter Tryz.func29, Tryz.ntmps29
  go_wp2_with fail
  refine (lastAt _ _ HL.out (by omega) _).mono ?_
  rintro e w1 ⟨rfl, rfl⟩
  go_wp2_with fail
  refine (lastAt _ _ HL2.out (by simp; omega) _).mono ?_
  rintro e w1 ⟨rfl, rfl⟩
  go_wp2_with fail
  refine (fullPath file line hf h0 h1 _ (by simp; exact tab_up (HT.out.on (by go_grown)) (by omega))).mono ?_
  rintro e w2 ⟨rfl, hb2⟩
  have B2 := Lib.hid hb2
  clear hb2
  go_wp2
  go_ret
  exact ⟨rfl, (show Below w.heap.size w _ by go_grown).trans (B2.out.mono (by simp))⟩

set_option maxHeartbeats 1000000 in
theorem trim_two (file : ByteArray) (line : Int) (hf : file.size ≤ 140737488355000) (h0 : -9223372036854775808 ≤ line) (h1 : line ≤ 9223372036854775807) (i j : Nat) (hi : i < file.size) (hj : j < i) (hl : Lib.lastIndexByte file 47 = i) (hl2 : Lib.lastIndexByte (file.extract 0 i) 47 = j) (w : World) (htab : Tab w.heap.size w) :
    Calls Tryz.prog 29 #[.agg (callerCells file line)] w fun e w' => e = .returned (.string ⟨((file.data.toList.drop (j + 1)) ++ 58 :: Lib.itoa line).toArray⟩) ∧ Below w.heap.size w w' := by
  have hz0 : ZBuf w.heap.size (w.heap.size + 1) [] ((w.alloc (.cells (callerCells file line) 51)).alloc (.cells #[.slice none 0 0] 117)) := by
    have := ZBuf.fresh w.heap.size (w.alloc (.cells (callerCells file line) 51))
    rwa [World.size_alloc] at this
  have hx0 : ((w.alloc (.cells (callerCells file line) 51)).alloc (.cells #[.slice none 0 0] 117)).heap[w.heap.size]? = some (.cells (callerCells file line) 51 (0, 0)) := by
    rw [Below.heap_alloc _ _ _ (by simp)]
    exact heap_alloc_new w _
  have hb0 : Below w.heap.size w ((w.alloc (.cells (callerCells file line) 51)).alloc (.cells #[.slice none 0 0] 117)) := by go_grown
  have Z0 := Lib.hid hz0
  have X0 := Lib.hid hx0
  have B0 := Lib.hid hb0
  clear hz0 hx0 hb0
  have HT := Lib.hid htab
  have HL := Lib.hid hl
  have HL2 := Lib.hid hl2
  clear htab hl hl2
  go_enter Tryz.func29, Tryz.ntmps29
  go_wp2_with fail
  refine (lastAt _ _ HL.out (by omega) _).mono ?_
  rintro e w1 ⟨rfl, rfl⟩
  go_wp2_with fail
  refine (lastAt _ _ HL2.out (by simp; omega) _).mono ?_
  rintro e w1 ⟨rfl, rfl⟩
  go_wp2_with fail
  refine (bufGet _).mono ?_
  rintro e w1 ⟨rfl, rfl⟩
  go_wp2_with fail
  refine (bufString w.heap.size (w.heap.size + 1) [] (file.extract (j + 1) file.size) _ Z0.out (by simp; omega) (by omega) (by simp; omega)).mono ?_
  rintro e w2 ⟨rfl, hz2, hb2, hk2⟩
  have hx2 := kept_other hk2 X0.out (by omega) (by decide)
  have hb2' := B0.out.trans hb2
  have hs2 : w.heap.size ≤ w2.heap.size := hb2'.size
  have hc3 : w2.cell? ⟨w.heap.size, 3, none⟩ = some (.int .i64 line) := cell_of_heap hx2
  rw [List.nil_append, Lib.extract_data, List.take_of_length_le (by simp)] at hz2
  have Z2 := Lib.hid hz2
  have X2 := Lib.hid hx2
  have B2 := Lib.hid hb2'
  clear hz2 hx2 hb2 hb2' hk2
  go_wp2_with fail
  refine (bufByte w.heap.size (w.heap.size + 1) _ 58 58 rfl _ Z2.out (by simp; omega) (by omega) hs2).mono ?_
  rintro e w3 ⟨rfl, hz3, hb3, hk3⟩
  have hx3 := kept_other hk3 X2.out (by omega) (by decide)
  have hb3' := B2.out.trans hb3
  have hs3 : w.heap.size ≤ w3.heap.size := hb3'.size
  clear hc3
  have hc3 : w3.cell? ⟨w.heap.size, 3, none⟩ = some (.int .i64 line) := cell_of_heap hx3
  have Z3 := Lib.hid hz3
  have B3 := Lib.hid hb3'
  clear hz3 hx3 hb3 hb3' hk3
  go_wp2_with fail
  refine (bufInt w.heap.size (w.heap.size + 1) _ line h0 h1 _ Z3.out (by simp; omega) (by omega) hs3 (HT.out.on B3.out)).mono ?_
  rintro e w4 ⟨rfl, hz4, hb4, hk4⟩
  have hb4' := B3.out.trans hb4
  have Z4 := Lib.hid hz4
  have B4 := Lib.hid hb4'
  clear hz4 hb4 hb4' hk4 hc3
  go_wp2_with fail
  refine (bufText w.heap.size (w.heap.size + 1) _ _ Z4.out).mono ?_
  rintro e w5 ⟨rfl, rfl⟩
  go_wp2_with fail
  refine (bufFree _ _).mono ?_
  rintro e w5 ⟨rfl, rfl⟩
  go_wp2
  go_ret
  exact ⟨by simp, B4.out⟩

/-- Where the short path begins: behind the last slash but one, or at the beginning. -/
def shortAt (file : ByteArray) : Nat :=
  if Lib.lastIndexByte file 47 = -1 then 0 else (Lib.lastIndexByte (file.extract 0 (Lib.lastIndexByte file 47).toNat) 47 + 1).toNat
def shortB (file : ByteArray) (line : Int) : ByteArray := ⟨(file.data.toList.drop (shortAt file) ++ 58 :: Lib.itoa line).toArray⟩
def fullB (file : ByteArray) (line : Int) : ByteArray := ⟨(file.data.toList ++ 58 :: Lib.itoa line).toArray⟩

theorem trimmed (file : ByteArray) (line : Int) (hf : file.size ≤ 140737488355000) (h0 : -9223372036854775808 ≤ line) (h1 : line ≤ 9223372036854775807) (w : World) (htab : Tab w.heap.size w) :
    Calls Tryz.prog 29 #[.agg (callerCells file line)] w fun e w' => e = .returned (.string (shortB file line)) ∧ Below w.heap.size w w' := by
  unfold shortB shortAt
  rcases Lib.lastIndexByte_spec file 47 with ⟨e, _⟩ | ⟨i, hi, e, _, _⟩
  · rw [if_pos e]
    exact trim_none file line hf h0 h1 e w htab
  · rw [if_neg (by omega), e, Int.toNat_natCast]
    have hsz : (file.extract 0 i).size = i := by simp; omega
    rcases Lib.lastIndexByte_spec (file.extract 0 i) 47 with ⟨e2, _⟩ | ⟨j, hj, e2, _, _⟩
    · rw [e2]
      exact trim_one file line hf h0 h1 i hi e e2 w htab
    · rw [e2]
      exact trim_two file line hf h0 h1 i j hi (by omega) e e2 w htab

set_option maxHeartbeats 1000000 in
theorem zcallerFull (file : ByteArray) (line : Int) (hf : file.size ≤ 140737488355000) (h0 : -9223372036854775808 ≤ line) (h1 : line ≤ 9223372036854775807) (w : World) (htab : Tab w.heap.size w) :
    Calls Tryz.prog 13 #[.bool true, .string file, .int .i64 line, .bool true] w fun e w' => e = .returned (.string (fullB file line)) ∧ Below w.heap.size w w' := by
  have HT := Lib.hid htab
  clear htab
  go_enter Tryz.func13, Tryz.ntmps13
  go_wp2_with fail
  refine (fullPath file line hf h0 h1 _ (by simp; exact tab_up (HT.out.on (by go_grown)) (by omega))).mono ?_
  rintro e w2 ⟨rfl, hb2⟩
  have B2 := Lib.hid hb2
  clear hb2
  go_wp2
  go_ret
  exact ⟨rfl, (show Below w.heap.size w _ by go_grown).trans (B2.out.mono (by simp))⟩

set_option maxHeartbeats 1000000 in
theorem zcallerShort (file : ByteArray) (line : Int) (hf : file.size ≤ 140737488355000) (h0 : -9223372036854775808 ≤ line) (h1 : line ≤ 9223372036854775807) (w : World) (htab : Tab w.heap.size w) :
    Calls Tryz.prog 13 #[.bool true, .string file, .int .i64 line, .bool false] w fun e w' => e = .returned (.string (shortB file line)) ∧ Below w.heap.size w w' := by
  have HT := Lib.hid htab
  clear htab
  go_enter Tryz.func13, Tryz.ntmps13
  go_wp2_with fail
  refine (trimmed file line hf h0 h1 _ (by simp; exact tab_up (HT.out.on (by go_grown)) (by omega))).mono ?_
  rintro e w2 ⟨rfl, hb2⟩
  have B2 := Lib.hid hb2
  clear hb2
  go_wp2
  go_ret
  exact ⟨rfl, (show Below w.heap.size w _ by go_grown).trans (B2.out.mono (by simp))⟩
end Go.Proofs.YtlnidnihhfjcpaaGreatDoor
