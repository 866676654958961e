/- The contracts of zap's buffer, more: AppendByte, String, Len, and what bufferpool.Get hands back. -/
import Derived.Test.YtlnidnihhfjcpaaGreatDoorWc
import Derived.Lib.BufferRead
namespace Go.Proofs.YtlnidnihhfjcpaaGreatDoor
open Go.RowKit

set_option maxHeartbeats 400000 in
theorem bufByte (B b : Nat) (l : List UInt8) (x : UInt8) (c : Int) (hx : c = x.toNat) (w : World) (hz : ZBuf B b l w) (hlen : l.length + 1 ≤ 140737488355328) (hB : B ≤ b) (hBw : B ≤ w.heap.size) :
    Calls Tryz.prog 55 #[.pointer (some ⟨b, 0, none⟩), .int .u8 c] w fun e w' => e = .returned (.tuple #[]) ∧ ZBuf B b (l ++ [x]) w' ∧ Below B w w' ∧ Lib.OthersKept 5 (some b) w w' := by
  obtain ⟨sv, hb, ho⟩ := hz
  have hc := cell_of_one hb
  have hf := free_of_one hb
  obtain ⟨i0, hi, hz0, hz1, hz2⟩ := info_parts info5
  obtain ⟨ao, cp, hsv⟩ := row_shape ho
  rw [hsv] at hc
  have hb' : (w.alloc (.cells #[.int .u8 c] 5)).heap[b]? = some (.cells #[sv] 117 (0, 0)) := by rw [Below.heap_alloc _ _ _ (lt_of_block hb)]; exact hb
  have ho2 := ho.alloc (.cells #[.int .u8 c] 5)
  have HB := Lib.hid hb'
  have HO := Lib.hid ho2
  have HS := Lib.hid hsv
  have HX := Lib.hid hx
  have hlt : b < w.heap.size := lt_of_block hb
  clear hb ho hsv hb' ho2 hx
  go_enter Tryz.func55, Tryz.ntmps55
  go_wp2_with (at_builtin; refine wpList_append_own _ rfl _ _ 35 rfl B 5 i0 (.int .u8 0) 1 1 Tryz.underlying35 hi hz0 hz1 hz2 rfl (by decide) _ _ _ rfl (HS.out ▸ HO.out) ⟨w.heap.size, 0, none⟩ 1 1 [.int .u8 c] rfl rfl ?c1 ?c2 ?c3 ?c4 ?c5 ?c6)
  case c1 =>
    intro j u hj
    match j, hj with
    | 0, hj => simp at hj; subst hj; simp [Addr.add]
  case c2 => intro u hu; simp at hu; subst hu; rfl
  case c3 => unfold maxLen; omega
  case c4 => omega
  case c5 => simp; omega
  case c6 =>
    intro v' w1 ho' hg _
    have R := ZBuf.step (l' := [x]) HB.out HO.out (by simpa [Lib.byteCells, HX.out] using ho') rfl (by rw [HS.out]; exact hg) hB (by simp; omega)
    obtain ⟨R1, R2, R3, hc1, hf1⟩ := R
    obtain ⟨ao', cp', hv'⟩ := row_shape ho'
    rw [hv'] at R1 R2 R3 ⊢
    have H1 := Lib.hid R1
    have H2 := Lib.hid (((Below.refl B w).alloc hBw (.cells #[.int .u8 c] 5)).trans R2)
    have H3 := Lib.hid (((Lib.OthersKept.refl 5 (some b) w).alloc (.cells #[.int .u8 c] 5)).trans R3)
    clear R1 R2 R3 ho' hg hc hv'
    go_wp2
    go_end0
    exact ⟨rfl, H1.out, H2.out, H3.out⟩

theorem conv_row {w : World} {B : Nat} {sv : Value} {l : List UInt8} (ho : w.ownsRow B 5 1 sv l.length (Lib.byteCells l)) :
    (convert 35 9 sv).run Tryz.prog w = .ok (.string ⟨l.toArray⟩) w := by
  have ho2 := ho
  rcases ho.2 with ⟨rfl, h0⟩ | ⟨g, cap, cur, rfl, _⟩
  · have : l = [] := List.length_eq_zero_iff.1 h0
    subst this
    exact Lib.run_convert_nil_bytes (P := Tryz.prog) w 35 9 5 0 Tryz.underlying35 Tryz.underlying5 Tryz.underlying9
  · have hsz : (⟨l.toArray⟩ : ByteArray).size = l.length := by simp [ByteArray.size]
    have hby : Lib.Bytes w g 0 ⟨l.toArray⟩ := by
      intro i hi
      have hi' : i < l.length := by rw [← hsz]; exact hi
      have := ho2.cells (g := g) rfl i (.int .u8 (l[i].toNat : Int)) (by simp [Lib.byteCells, hi'])
      have hadd : (⟨g, 0, none⟩ : Addr).add i = ⟨g, i, none⟩ := by unfold Addr.add; split <;> simp_all
      rw [hadd] at this
      rw [Nat.zero_add]
      exact this
    have := Lib.run_convert_whole (P := Tryz.prog) w 35 5 9 Tryz.underlying35 Tryz.underlying5 Tryz.underlying9 g 0 ⟨l.toArray⟩ hby cap
    rwa [hsz] at this

set_option maxHeartbeats 400000 in
theorem bufText (B b : Nat) (l : List UInt8) (w : World) (hz : ZBuf B b l w) :
    Calls Tryz.prog 57 #[.pointer (some ⟨b, 0, none⟩)] w fun e w' => e = .returned (.string ⟨l.toArray⟩) ∧ w = w' := by
  obtain ⟨sv, hb, ho⟩ := hz
  have hc := cell_of_one hb
  have hcv := conv_row ho
  obtain ⟨ao, cp, hsv⟩ := row_shape ho
  rw [hsv] at hc hcv
  clear hb ho hsv
  go_enter Tryz.func57, Tryz.ntmps57
  go_wp2
  go_ret
  exact ⟨rfl, rfl⟩

set_option maxHeartbeats 400000 in
theorem bufLen (B b : Nat) (l : List UInt8) (w : World) (hz : ZBuf B b l w) :
    Calls Tryz.prog 212 #[.pointer (some ⟨b, 0, none⟩)] w fun e w' => e = .returned (.int .i64 l.length) ∧ w = w' := by
  obtain ⟨sv, hb, ho⟩ := hz
  have hc := cell_of_one hb
  obtain ⟨ao, cp, hsv⟩ := row_shape ho
  rw [hsv] at hc
  clear hb ho hsv
  go_enter Tryz.func212, Tryz.ntmps212
  go_wp2
  go_ret
  exact ⟨rfl, rfl⟩

set_option maxHeartbeats 400000 in
theorem bufGet (w : World) :
    Calls Tryz.prog 53 #[] w fun e w' => e = .returned (.pointer (some ⟨w.heap.size, 0, none⟩)) ∧ w.alloc (.cells #[.slice none 0 0] 117) = w' := by
  go_enter Tryz.func53, Tryz.ntmps53
  go_wp2
  go_ret
  exact ⟨rfl, rfl⟩

theorem bufFree (b : Nat) (w : World) : Calls Tryz.prog 58 #[.pointer (some ⟨b, 0, none⟩)] w fun e w' => e = .returned (.tuple #[]) ∧ w = w' := by
  go_enter Tryz.func58, Tryz.ntmps58
  go_wp2
  go_end0
  exact ⟨rfl, rfl⟩
end Go.Proofs.YtlnidnihhfjcpaaGreatDoor
