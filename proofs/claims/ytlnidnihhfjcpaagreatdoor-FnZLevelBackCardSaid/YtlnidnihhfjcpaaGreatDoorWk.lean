/- The contracts of zap's JSON encoder on the road of zAwake: AppendInt64 into an empty buffer, AppendDuration. -/
import Derived.Test.YtlnidnihhfjcpaaGreatDoorWe
namespace Go.Proofs.YtlnidnihhfjcpaaGreatDoor
open Go.RowKit

/-- Block j is a JSON encoder of the call's own: its configuration lies in block c, its buffer is block b, no blanks, no namespaces. -/
def EncAt (j c b : Nat) (w : World) : Prop := w.heap[j]? = some (.cells #[.pointer (some ⟨c, 0, none⟩), .pointer (some ⟨b, 0, none⟩), .bool false, .int .i64 0] 99 (0, 0))
theorem EncAt.kept {j c b k : Nat} {w w' : World} (h : EncAt j c b w) (hk : Lib.OthersKept 5 (some k) w w') (hne : j ≠ k) : EncAt j c b w' := kept_other hk h hne (by decide)

set_option maxHeartbeats 400000 in
theorem sepEmpty (B j c b : Nat) (w : World) (he : EncAt j c b w) (hz : ZBuf B b [] w) :
    Calls Tryz.prog 211 #[.pointer (some ⟨j, 0, none⟩)] w fun e w' => e = .returned (.tuple #[]) ∧ w = w' := by
  have h1 : w.cell? ⟨j, 1, none⟩ = some (.pointer (some ⟨b, 0, none⟩)) := cell_of_heap he
  have HZ := Lib.hid hz
  clear he hz
  go_enter Tryz.func211, Tryz.ntmps211
  go_wp2_with (go_at_call 212; refine (bufLen B b [] w HZ.out).mono ?_; rintro e w1 ⟨rfl, rfl⟩)
  go_returns
  exact ⟨rfl, rfl⟩

set_option maxHeartbeats 400000 in
theorem appendInt64 (B j c b : Nat) (i : Int) (h0 : -9223372036854775808 ≤ i) (h1 : i ≤ 9223372036854775807) (w : World) (he : EncAt j c b w) (hz : ZBuf B b [] w) (hB : B ≤ b) (hjb : j ≠ b) (hBw : B ≤ w.heap.size) (htab : Tab B w) :
    Calls Tryz.prog 199 #[.pointer (some ⟨j, 0, none⟩), .int .i64 i] w fun e w' => e = .returned (.tuple #[]) ∧ EncAt j c b w' ∧ ZBuf B b (Lib.itoa i) w' ∧ Below B w w' ∧ Lib.OthersKept 5 (some b) w w' := by
  have hc1 : w.cell? ⟨j, 1, none⟩ = some (.pointer (some ⟨b, 0, none⟩)) := cell_of_heap he
  have HE := Lib.hid he
  have HZ := Lib.hid hz
  have HT := Lib.hid htab
  clear he hz htab
  go_enter Tryz.func199, Tryz.ntmps199
  go_wp2_with fail
  refine (sepEmpty B j c b w HE.out HZ.out).mono ?_
  rintro e w1 ⟨rfl, rfl⟩
  go_wp2_with fail
  refine (bufInt B b [] i h0 h1 w HZ.out (by simp) hB hBw HT.out).mono ?_
  rintro e w1 ⟨rfl, hz1, hb1, hk1⟩
  have H1 := Lib.hid (HE.out.kept hk1 hjb)
  rw [List.nil_append] at hz1
  have H2 := Lib.hid hz1
  have H3 := Lib.hid hb1
  have H4 := Lib.hid hk1
  clear hz1 hb1 hk1
  go_wp2
  go_returns
  exact ⟨rfl, H1.out, H2.out, H3.out, H4.out⟩

theorem jenc_int64 (j : Nat) (w : World) : (method 418 95 (.pointer (some ⟨j, 0, none⟩)) "AppendInt64").run Tryz.prog w = .ok (199, .pointer (some ⟨j, 0, none⟩)) w := by kernel_rfl

set_option maxHeartbeats 400000 in
theorem nanosEnc (B j c b : Nat) (i : Int) (h0 : -9223372036854775808 ≤ i) (h1 : i ≤ 9223372036854775807) (w : World) (he : EncAt j c b w) (hz : ZBuf B b [] w) (hB : B ≤ b) (hjb : j ≠ b) (hBw : B ≤ w.heap.size) (htab : Tab B w) :
    Calls Tryz.prog 72 #[.int .i64 i, .iface 95 (.pointer (some ⟨j, 0, none⟩))] w fun e w' => e = .returned (.tuple #[]) ∧ EncAt j c b w' ∧ ZBuf B b (Lib.itoa i) w' ∧ Below B w w' ∧ Lib.OthersKept 5 (some b) w w' := by
  have hm := jenc_int64 j
  have HE := Lib.hid he
  have HZ := Lib.hid hz
  have HT := Lib.hid htab
  clear he hz htab
  go_enter Tryz.func72, Tryz.ntmps72
  go_wp2_with fail
  refine (appendInt64 B j c b i h0 h1 w HE.out HZ.out hB hjb hBw HT.out).mono ?_
  rintro e w1 ⟨rfl, g1, g2, g3, g4⟩
  have H1 := Lib.hid g1
  have H2 := Lib.hid g2
  have H3 := Lib.hid g3
  have H4 := Lib.hid g4
  clear g1 g2 g3 g4
  go_wp2
  go_returns
  exact ⟨rfl, H1.out, H2.out, H3.out, H4.out⟩

theorem some72 (w : World) : (binOp .neq 62 (.func (.func 72) #[] #[]) .nilFunc).run Tryz.prog w = .ok (.bool true) w := by kernel_rfl

set_option maxHeartbeats 1000000 in
theorem appendDuration (B j c b : Nat) (i : Int) (h0 : -9223372036854775808 ≤ i) (h1 : i ≤ 9223372036854775807) (w : World) (he : EncAt j c b w) (hc : w.cell? ⟨c, 11, none⟩ = some (.func (.func 72) #[] #[])) (hz : ZBuf B b [] w) (hB : B ≤ b) (hjb : j ≠ b) (hBw : B ≤ w.heap.size) (htab : Tab B w) (hl : 0 < (Lib.itoa i).length) :
    Calls Tryz.prog 193 #[.pointer (some ⟨j, 0, none⟩), .int .i64 i] w fun e w' => e = .returned (.tuple #[]) ∧ EncAt j c b w' ∧ ZBuf B b (Lib.itoa i) w' ∧ Below B w w' ∧ Lib.OthersKept 5 (some b) w w' := by
  have hq := some72
  have hc0 : w.cell? ⟨j, 0, none⟩ = some (.pointer (some ⟨c, 0, none⟩)) := cell_of_heap he
  have hc1 : w.cell? ⟨j, 1, none⟩ = some (.pointer (some ⟨b, 0, none⟩)) := cell_of_heap he
  have HE := Lib.hid he
  have HZ := Lib.hid hz
  have HT := Lib.hid htab
  clear he hz htab
  go_enter Tryz.func193, Tryz.ntmps193
  go_wp2_with fail
  refine (bufLen B b [] w HZ.out).mono ?_
  rintro e w1 ⟨rfl, rfl⟩
  go_wp2_with fail
  refine (nanosEnc B j c b i h0 h1 w HE.out HZ.out hB hjb hBw HT.out).mono ?_
  rintro e w1 ⟨rfl, g1, g2, g3, g4⟩
  have hd1 : w1.cell? ⟨j, 1, none⟩ = some (.pointer (some ⟨b, 0, none⟩)) := cell_of_heap g1
  have H1 := Lib.hid g1
  have H2 := Lib.hid g2
  have H3 := Lib.hid g3
  have H4 := Lib.hid g4
  clear g1 g2 g3 g4
  go_wp2_with fail
  refine (bufLen B b _ w1 H2.out).mono ?_
  rintro e w2 ⟨rfl, rfl⟩
  have hne : ((0 : Int) == ((Lib.itoa i).length : Int)) = false := by rw [beq_eq_false_iff_ne]; omega
  go_wp2
  go_returns
  exact ⟨rfl, H1.out, H2.out, H3.out, H4.out⟩
end Go.Proofs.YtlnidnihhfjcpaaGreatDoor
