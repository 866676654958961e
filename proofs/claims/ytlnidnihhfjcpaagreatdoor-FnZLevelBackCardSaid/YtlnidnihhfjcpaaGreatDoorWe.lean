/- The contracts of zap's buffer, AppendInt; of an entry's caller: FullPath and TrimmedPath. -/
import Derived.Test.YtlnidnihhfjcpaaGreatDoorWd
import Derived.Test.YtlnidnihhfjcpaaGreatDoorShelf
namespace Go.Proofs.YtlnidnihhfjcpaaGreatDoor
open Go.RowKit

/-- The table of the powers of ten lies below block B, as its initialiser lays it. -/
abbrev Tab (B : Nat) (w : World) : Prop := Lib.TabBelow Tryz.prog B w "internal/strconv.uint64pow10" .u64 Lib.pow10Tab

theorem below_grow (w : World) (k : Nat) (os : Array Obj) : Below w.heap.size w (Sort.grow (w.drewN k) os) := by
  refine ⟨rfl, rfl, rfl, ?_, ?_⟩
  · show w.heap.size ≤ (w.heap ++ os).size
    simp
  · intro i hi
    show (w.heap ++ os)[i]? = _
    rw [Array.getElem?_append_left hi]

theorem itoa_any (n : Int) (h0 : -9223372036854775808 ≤ n) (h1 : n ≤ 9223372036854775807) (w : World) (B : Nat) (htab : Tab B w) :
    Calls Tryz.prog 14 #[.int .i64 n] w fun e w' => e = .returned (.string ⟨(Lib.itoa n).toArray⟩) ∧ Below w.heap.size w w' :=
  (Tryz.strconv_Itoa n h0 h1 w htab.here).mono fun _ _ ⟨he, k, os, hw⟩ => ⟨he, by rw [hw]; exact below_grow w k os⟩

theorem ZBuf.step2 {B b m : Nat} {l l' : List UInt8} {w w1 : World} {sv v' : Value} (hb : w.heap[b]? = some (.cells #[sv] 117 (0, 0)))
    (ho' : w1.ownsRow B 5 1 v' (l.length + m) (Lib.byteCells l ++ Lib.byteCells l')) (hm : m = l'.length) (hbe : Below B w w1) (hok : Lib.OthersKept 5 none w w1) (hB : B ≤ b) :
    ZBuf B b (l ++ l') (w1.setCell ⟨b, 0, none⟩ v') ∧ Below B w (w1.setCell ⟨b, 0, none⟩ v') ∧ Lib.OthersKept 5 (some b) w (w1.setCell ⟨b, 0, none⟩ v') ∧ w1.cell? ⟨b, 0, none⟩ = some sv ∧ w1.frozen? ⟨b, 0, none⟩ = false := by
  subst hm
  have hb1 : w1.heap[b]? = some (.cells #[sv] 117 (0, 0)) := hok b _ hb (by simp) (by intro c fz h; injection h with _ h _; exact absurd h (by decide))
  have hvb : v'.ownBlock ≠ some b := fun e => by
    obtain ⟨c, fz, h⟩ := row_is ho' b e
    exact ne_of_types h hb1 (by decide) rfl
  refine ⟨⟨v', one_setCell hb1, ?_⟩, ?_, ?_, cell_of_one hb1, free_of_one hb1⟩
  · rw [List.length_append, Lib.byteCells_append]
    exact ownsRow_setCell_other ho' hvb _
  · exact hbe.setCell (by exact hB) _
  · have hok' : Lib.OthersKept 5 (some b) w w1 := fun k o hk _ ho => hok k o hk (by simp) ho
    exact hok'.setCell ⟨b, 0, none⟩ rfl v'

set_option maxHeartbeats 400000 in
theorem bufInt (B b : Nat) (l : List UInt8) (i : Int) (h0 : -9223372036854775808 ≤ i) (h1 : i ≤ 9223372036854775807) (w : World) (hz : ZBuf B b l w) (hlen : l.length + 21 ≤ 140737488355328) (hB : B ≤ b) (hBw : B ≤ w.heap.size) (htab : Tab B w) :
    Calls Tryz.prog 56 #[.pointer (some ⟨b, 0, none⟩), .int .i64 i] w fun e w' => e = .returned (.tuple #[]) ∧ ZBuf B b (l ++ Lib.itoa i) w' ∧ Below B w w' ∧ Lib.OthersKept 5 (some b) w w' := by
  obtain ⟨sv, hb, ho⟩ := hz
  have hc := cell_of_one hb
  have hf := free_of_one hb
  obtain ⟨ao, cp, hsv⟩ := row_shape ho
  subst hsv
  have HB := Lib.hid hb
  have HO := Lib.hid ho
  have HT := Lib.hid htab
  clear hb ho htab
  go_enter Tryz.func56, Tryz.ntmps56
  go_wp2_with fail
  refine (Tryz.strconv_AppendInt_10 B _ i h0 h1 _ _ w HO.out hBw hlen HT.out).mono ?_
  rintro e w1 ⟨v', rfl, ho', hbe, hok⟩
  obtain ⟨R1, R2, R3, hc1, hf1⟩ := ZBuf.step2 HB.out ho' rfl hbe hok hB
  obtain ⟨ao', cp', hv'⟩ := row_shape ho'
  rw [hv'] at R1 R2 R3 ⊢
  have H1 := Lib.hid R1
  have H2 := Lib.hid R2
  have H3 := Lib.hid R3
  clear R1 R2 R3 ho' hbe hok hc hf hv'
  go_wp2
  go_end0
  exact ⟨rfl, H1.out, H2.out, H3.out⟩

/-- An entry's caller, as the thin package makes it. -/
abbrev callerCells (file : ByteArray) (line : Int) : Array Value := #[.bool true, .int .u64 0, .string file, .int .i64 line, .string ⟨#[]⟩]

/-- A block of other things than bytes that is not the buffer's stands behind a write into the buffer. -/
theorem kept_other {b k : Nat} {w w1 : World} {c : Array Value} {t : TypeId} {fz : Nat × Nat} (hk : Lib.OthersKept 5 (some b) w w1) (h : w.heap[k]? = some (.cells c t fz)) (hne : k ≠ b) (ht : t ≠ 5) : w1.heap[k]? = some (.cells c t fz) :=
  hk k _ h (by simpa using hne) (by intro c' fz' e; injection e with _ e _; exact ht e)

theorem cell_of_heap {w : World} {k j : Nat} {c : Array Value} {t : TypeId} {fz : Nat × Nat} (h : w.heap[k]? = some (.cells c t fz)) : w.cell? ⟨k, j, none⟩ = c[j]? := by simp [World.cell?, h]

set_option maxHeartbeats 1000000 in
theorem fullPath (file : ByteArray) (line : Int) (hf : file.size ≤ 140737488355000) (h0 : -9223372036854775808 ≤ line) (h1 : line ≤ 9223372036854775807) (w : World) (htab : Tab w.heap.size w) :
    Calls Tryz.prog 28 #[.agg (callerCells file line)] w fun e w' => e = .returned (.string ⟨(file.data.toList ++ 58 :: Lib.itoa line).toArray⟩) ∧ Below w.heap.size w w' := by
  have hz0 : ZBuf w.heap.size (w.heap.size + 1) [] ((w.alloc (.cells (callerCells file line) 51)).alloc (.cells #[.slice none 0 0] 117)) := by
    have := ZBuf.fresh w.heap.size (w.alloc (.cells (callerCells file line) 51))
    rwa [World.size_alloc] at this
  have hx0 : ((w.alloc (.cells (callerCells file line) 51)).alloc (.cells #[.slice none 0 0] 117)).heap[w.heap.size]? = some (.cells (callerCells file line) 51 (0, 0)) := by
    rw [Below.heap_alloc _ _ _ (by simp)]
    exact heap_alloc_new w _
  have hb0 : Below w.heap.size w ((w.alloc (.cells (callerCells file line) 51)).alloc (.cells #[.slice none 0 0] 117)) := by go_grown
  have Z0 := Lib.hid hz0
  have X0 := Lib.hid hx0
  have B0 := Lib.hid hb0
  have HT := Lib.hid htab
  clear hz0 hx0 hb0 htab
  go_enter Tryz.func28, Tryz.ntmps28
  go_wp2_with fail
  refine (bufGet _).mono ?_
  rintro e w1 ⟨rfl, rfl⟩
  go_wp2_with fail
  refine (bufString w.heap.size (w.heap.size + 1) [] file _ Z0.out (by simp; omega) (by omega) (by simp; omega)).mono ?_
  rintro e w2 ⟨rfl, hz2, hb2, hk2⟩
  have hx2 := kept_other hk2 X0.out (by omega) (by decide)
  have hb2' := B0.out.trans hb2
  have hs2 : w.heap.size ≤ w2.heap.size := hb2'.size
  have hc3 : w2.cell? ⟨w.heap.size, 3, none⟩ = some (.int .i64 line) := cell_of_heap hx2
  rw [List.nil_append] at hz2
  have Z2 := Lib.hid hz2
  have X2 := Lib.hid hx2
  have B2 := Lib.hid hb2'
  clear hz2 hx2 hb2 hb2' hk2
  go_wp2_with fail
  refine (bufByte w.heap.size (w.heap.size + 1) _ 58 58 rfl _ Z2.out (by simp; omega) (by omega) hs2).mono ?_
  rintro e w3 ⟨rfl, hz3, hb3, hk3⟩
  have hx3 := kept_other hk3 X2.out (by omega) (by decide)
  have hb3' := B2.out.trans hb3
  have hs3 : w.heap.size ≤ w3.heap.size := hb3'.size
  clear hc3
  have hc3 : w3.cell? ⟨w.heap.size, 3, none⟩ = some (.int .i64 line) := cell_of_heap hx3
  have Z3 := Lib.hid hz3
  have B3 := Lib.hid hb3'
  clear hz3 hx3 hb3 hb3' hk3
  go_wp2_with fail
  refine (bufInt w.heap.size (w.heap.size + 1) _ line h0 h1 _ Z3.out (by simp; omega) (by omega) hs3 (HT.out.on B3.out)).mono ?_
  rintro e w4 ⟨rfl, hz4, hb4, hk4⟩
  have hb4' := B3.out.trans hb4
  have Z4 := Lib.hid hz4
  have B4 := Lib.hid hb4'
  clear hz4 hb4 hb4' hk4 hc3
  go_wp2_with fail
  refine (bufText w.heap.size (w.heap.size + 1) _ _ Z4.out).mono ?_
  rintro e w5 ⟨rfl, rfl⟩
  go_wp2_with fail
  refine (bufFree _ _).mono ?_
  rintro e w5 ⟨rfl, rfl⟩
  go_wp2
  go_ret
  exact ⟨rfl, B4.out⟩
end Go.Proofs.YtlnidnihhfjcpaaGreatDoor
