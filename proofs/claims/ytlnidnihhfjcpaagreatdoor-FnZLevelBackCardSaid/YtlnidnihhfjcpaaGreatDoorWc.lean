/- The contracts of zap's buffer: what AppendString, AppendByte, String do to a buffer that the call itself has made. The new length is at most 2^47 bytes. -/
import Derived.Test.YtlnidnihhfjcpaaGreatDoorWb
import Derived.Lib.AppendStr
import Derived.Lib.OthersKept
import Derived.Lib.UnsafeStr
import Derived.OneCell
namespace Go.Proofs.YtlnidnihhfjcpaaGreatDoor
open Go.RowKit

theorem row_is {w : World} {B : Nat} {e : TypeId} {z : Nat} {v : Value} {n : Nat} {xs : List Value} (h : w.ownsRow B e z v n xs) : ∀ g, v.ownBlock = some g → ∃ c fz, w.heap[g]? = some (.cells c e fz) := by
  intro g hg
  rcases h.2 with ⟨rfl, _⟩ | ⟨g', cap, cur, rfl, _, hgg, _⟩
  · simp [Value.ownBlock] at hg
  · simp [Value.ownBlock] at hg
    subst hg
    exact ⟨_, _, hgg⟩
theorem row_shape {w : World} {B : Nat} {e : TypeId} {z : Nat} {v : Value} {n : Nat} {xs : List Value} (h : w.ownsRow B e z v n xs) : ∃ ao c, v = .slice ao n c := by
  rcases h.2 with ⟨rfl, rfl⟩ | ⟨g', cap, cur, rfl, _⟩
  · exact ⟨_, _, rfl⟩
  · exact ⟨_, _, rfl⟩

/-- Block b is a buffer of zap's, of the call's own (its bytes lie from block B on), that holds the bytes l. -/
def ZBuf (B b : Nat) (l : List UInt8) (w : World) : Prop := ∃ sv, w.heap[b]? = some (.cells #[sv] 117 (0, 0)) ∧ w.ownsRow B 5 1 sv l.length (Lib.byteCells l)

theorem ZBuf.fresh (B : Nat) (w : World) : ZBuf B w.heap.size [] (w.alloc (.cells #[.slice none 0 0] 117)) :=
  ⟨_, heap_alloc_new w _, World.ownsRow_nil _ _ _ _⟩

theorem ne_of_types {w : World} {g b : Nat} {c c' : Array Value} {fz fz' : Nat × Nat} {e e' : TypeId} (h : w.heap[g]? = some (.cells c e fz)) (h' : w.heap[b]? = some (.cells c' e' fz')) (hne : e ≠ e') : g ≠ b := by
  rintro rfl
  rw [h] at h'
  simp at h'
  exact hne h'.2.1

theorem ZBuf.step {B b m : Nat} {l l' : List UInt8} {w w1 : World} {sv v' : Value} (hb : w.heap[b]? = some (.cells #[sv] 117 (0, 0))) (ho : w.ownsRow B 5 1 sv l.length (Lib.byteCells l))
    (ho' : w1.ownsRow B 5 1 v' (l.length + m) (Lib.byteCells l ++ Lib.byteCells l')) (hm : m = l'.length) (hg : w.grownBy w1 sv.ownBlock) (hB : B ≤ b) (hBw : B ≤ w.heap.size) :
    ZBuf B b (l ++ l') (w1.setCell ⟨b, 0, none⟩ v') ∧ Below B w (w1.setCell ⟨b, 0, none⟩ v') ∧ Lib.OthersKept 5 (some b) w (w1.setCell ⟨b, 0, none⟩ v') ∧ w1.cell? ⟨b, 0, none⟩ = some sv ∧ w1.frozen? ⟨b, 0, none⟩ = false := by
  subst hm
  have hsb : sv.ownBlock ≠ some b := fun e => by
    obtain ⟨c, fz, h⟩ := row_is ho b e
    exact ne_of_types h hb (by decide) rfl
  have hb1 : w1.heap[b]? = some (.cells #[sv] 117 (0, 0)) := by
    rw [hg.block b (lt_of_block hb) (fun e => hsb e.symm)]; exact hb
  have hvb : v'.ownBlock ≠ some b := fun e => by
    obtain ⟨c, fz, h⟩ := row_is ho' b e
    exact ne_of_types h hb1 (by decide) rfl
  refine ⟨⟨v', one_setCell hb1, ?_⟩, ?_, ?_, cell_of_one hb1, free_of_one hb1⟩
  · rw [List.length_append, Lib.byteCells_append]
    exact ownsRow_setCell_other ho' hvb _
  · refine ((Below.refl B w).grown hg hBw ?_).setCell (by exact hB) _
    intro k hk
    exact (ho.lt k hk).1
  · refine Lib.OthersKept.setCell ((Lib.OthersKept.refl 5 (some b) w).grown hg ?_) _ rfl _
    intro g hg'
    exact row_is ho g hg'

theorem info5 : (Tryz.prog.info? 5).map (fun i => (i.zero, i.size, i.bytes)) = some (some (.int .u8 0), 1, 1) := by kernel_rfl

set_option maxHeartbeats 400000 in
theorem bufString (B b : Nat) (l : List UInt8) (s : ByteArray) (w : World) (hz : ZBuf B b l w) (hlen : l.length + s.size ≤ 140737488355328) (hB : B ≤ b) (hBw : B ≤ w.heap.size) :
    Calls Tryz.prog 54 #[.pointer (some ⟨b, 0, none⟩), .string s] w fun e w' => e = .returned (.tuple #[]) ∧ ZBuf B b (l ++ s.data.toList) w' ∧ Below B w w' ∧ Lib.OthersKept 5 (some b) w w' := by
  obtain ⟨sv, hb, ho⟩ := hz
  have hc := cell_of_one hb
  have hf := free_of_one hb
  obtain ⟨i0, hi, hz0, hz1, hz2⟩ := info_parts info5
  obtain ⟨ao, cp, hsv⟩ := row_shape ho
  rw [hsv] at hc
  have HB := Lib.hid hb
  have HO := Lib.hid ho
  have HS := Lib.hid hsv
  clear hb ho hsv
  go_enter Tryz.func54, Tryz.ntmps54
  go_wp2_with (at_builtin; refine Lib.wpList_append_own_string _ rfl _ _ 35 9 rfl B 5 i0 Tryz.underlying35 Tryz.underlying9 hi hz0 hz1 hz2 _ _ _ rfl (HS.out ▸ HO.out) s rfl ?c1 ?c2 ?c3 ?c4)
  case c1 => unfold maxLen; omega
  case c2 => exact hlen
  case c3 => exact hBw
  case c4 =>
    intro v' w1 ho' hg _
    have R := ZBuf.step (l' := s.data.toList) HB.out HO.out ho' (by simp) (by rw [HS.out]; exact hg) hB hBw
    obtain ⟨R1, R2, R3, hc1, hf1⟩ := R
    obtain ⟨ao', cp', hv'⟩ := row_shape ho'
    rw [hv'] at R1 R2 R3 ⊢
    have H1 := Lib.hid R1
    have H2 := Lib.hid R2
    have H3 := Lib.hid R3
    clear R1 R2 R3 ho' hg hc hv'
    go_wp2
    go_end0
    exact ⟨rfl, H1.out, H2.out, H3.out⟩
end Go.Proofs.YtlnidnihhfjcpaaGreatDoor
