/- The contracts of zap's newJSONEncoder and Value, of the thin package's ZDurationText at 1500 nanoseconds, and zAwake: it tells true. -/
import Derived.Test.YtlnidnihhfjcpaaGreatDoorWi
import Derived.Test.YtlnidnihhfjcpaaGreatDoorWj
import Derived.Test.YtlnidnihhfjcpaaGreatDoorWk
namespace Go.Proofs.YtlnidnihhfjcpaaGreatDoor
open Go.RowKit

theorem tab_up1 {B B' : Nat} {w : World} (h : Tab B w) (hB : B ≤ B') : Tab B' w := fun w' hb => h w' (hb.mono hB)
theorem tab_up2 {B : Nat} {w : World} (h : Tab B w) : Tab (B + 1) w := tab_up1 h (Nat.le_succ _)

theorem blocks3 (w : World) (o1 o2 o3 : Obj) : (((w.alloc o1).alloc o2).alloc o3).heap[w.heap.size]? = some o1 ∧ (((w.alloc o1).alloc o2).alloc o3).heap[w.heap.size + 1]? = some o2 ∧ (((w.alloc o1).alloc o2).alloc o3).heap[w.heap.size + 2]? = some o3 := by
  have e1 := heap_alloc_new w o1
  have e2 := heap_alloc_new (w.alloc o1) o2
  have e3 := heap_alloc_new ((w.alloc o1).alloc o2) o3
  rw [World.size_alloc] at e2
  rw [World.size_alloc, World.size_alloc] at e3
  refine ⟨?_, ?_, e3⟩
  · rw [Below.heap_alloc _ _ _ (by simp; omega), Below.heap_alloc _ _ _ (by simp), e1]
  · rw [Below.heap_alloc _ _ _ (by simp), e2]

set_option maxHeartbeats 1000000 in
theorem newEnc (w : World) :
    Calls Tryz.prog 62 #[.agg ecfg, .bool false] w fun e w' => e = .returned (.pointer (some ⟨w.heap.size + 2, 0, none⟩)) ∧ EncAt (w.heap.size + 2) w.heap.size (w.heap.size + 1) w' ∧ ZBuf w.heap.size (w.heap.size + 1) [] w' ∧ w'.cell? ⟨w.heap.size, 11, none⟩ = some (.func (.func 72) #[] #[]) ∧ Below w.heap.size w w' ∧ w.heap.size + 2 < w'.heap.size := by
  go_enter Tryz.func62, Tryz.ntmps62
  go_wp2_with (go_at_call 53; refine (bufGet _).mono ?_; rintro e w1 ⟨rfl, rfl⟩)
  go_returns
  have e := blocks3 w (.cells #[noS, noS, noS, noS, noS, noS, noS, .bool false, .string ⟨#[10]⟩, .nilFunc, .nilFunc, .func (.func 72) #[] #[], .nilFunc, .nilFunc, noS] 69) (.cells #[.slice none 0 0] 117) (.cells #[.pointer (some ⟨w.heap.size, 0, none⟩), .pointer (some ⟨w.heap.size + 1, 0, none⟩), .bool false, .int .i64 0] 99)
  exact ⟨rfl, e.2.2, ⟨_, e.2.1, World.ownsRow_nil _ _ _ _⟩, cell_of_heap e.1, by go_grown, by simp⟩

theorem jenc_dur (j : Nat) (w : World) : (method 418 95 (.pointer (some ⟨j, 0, none⟩)) "AppendDuration").run Tryz.prog w = .ok (193, .pointer (some ⟨j, 0, none⟩)) w := by kernel_rfl

set_option maxHeartbeats 400000 in
theorem closure47 (B j c b k : Nat) (i : Int) (h0 : -9223372036854775808 ≤ i) (h1 : i ≤ 9223372036854775807) (w : World) (hk : w.cell? ⟨k, 0, none⟩ = some (.int .i64 i)) (he : EncAt j c b w) (hc : w.cell? ⟨c, 11, none⟩ = some (.func (.func 72) #[] #[])) (hz : ZBuf B b [] w) (hB : B ≤ b) (hjb : j ≠ b) (hBw : B ≤ w.heap.size) (htab : Tab B w) (hl : 0 < (Lib.itoa i).length) :
    Calls Tryz.prog 47 #[.iface 95 (.pointer (some ⟨j, 0, none⟩)), .pointer (some ⟨k, 0, none⟩)] w fun e w' => e = .returned (.tuple #[]) ∧ EncAt j c b w' ∧ ZBuf B b (Lib.itoa i) w' ∧ Below B w w' ∧ Lib.OthersKept 5 (some b) w w' := by
  have hm := jenc_dur j
  have HE := Lib.hid he
  have HC := Lib.hid hc
  have HZ := Lib.hid hz
  have HT := Lib.hid htab
  clear he hz htab hc
  go_enter Tryz.func47, Tryz.ntmps47
  go_wp2_with fail
  refine (appendDuration B j c b i h0 h1 w HE.out HC.out HZ.out hB hjb hBw HT.out hl).mono ?_
  rintro e w1 ⟨rfl, g1, g2, g3, g4⟩
  have H1 := Lib.hid g1
  have H2 := Lib.hid g2
  have H3 := Lib.hid g3
  have H4 := Lib.hid g4
  clear g1 g2 g3 g4
  go_wp2
  go_returns
  exact ⟨rfl, H1.out, H2.out, H3.out, H4.out⟩

set_option maxHeartbeats 1000000 in
theorem valueOf (k : Nat) (i : Int) (h0 : -9223372036854775808 ≤ i) (h1 : i ≤ 9223372036854775807) (w : World) (hk : w.cell? ⟨k, 0, none⟩ = some (.int .i64 i)) (hkw : k < w.heap.size) (htab : Tab w.heap.size w) (hl : 0 < (Lib.itoa i).length) :
    Calls Tryz.prog 39 #[.agg ecfg, .func (.func 47) #[] #[.pointer (some ⟨k, 0, none⟩)]] w fun e w' => e = .returned (.string ⟨(Lib.itoa i).toArray⟩) ∧ Below w.heap.size w w' := by
  have hb0 : Below w.heap.size w (w.alloc (.cells ecfg 69)) := by go_grown
  have B0 := Lib.hid hb0
  have HK := Lib.hid hk
  have HT := Lib.hid htab
  have HL := Lib.hid hl
  clear hb0 hk htab hl
  go_enter Tryz.func39, Tryz.ntmps39
  go_wp2_with fail
  refine (newEnc (w.alloc (.cells ecfg 69))).mono ?_
  rintro e w1 ⟨rfl, he, hz, hc, hb, hs⟩
  rw [World.size_alloc] at he hz hc hb hs
  have hb1 := B0.out.trans (hb.mono (Nat.le_succ _))
  have hk1 : w1.cell? ⟨k, 0, none⟩ = some (.int .i64 i) := by rw [hb1.cell (by exact hkw)]; exact HK.out
  have hd1 : w1.cell? ⟨w.heap.size + 1 + 2, 1, none⟩ = some (.pointer (some ⟨w.heap.size + 1 + 1, 0, none⟩)) := cell_of_heap he
  have H1 := Lib.hid he
  have H2 := Lib.hid hz
  have H3 := Lib.hid hc
  have H4 := Lib.hid hb1
  have HK1 := Lib.hid hk1
  clear he hz hc hb hb1 hk1 hd1
  go_wp2_with fail
  refine (closure47 (w.heap.size + 1) (w.heap.size + 1 + 2) (w.heap.size + 1) (w.heap.size + 1 + 1) k i h0 h1 w1 HK1.out H1.out H3.out H2.out (by omega) (by omega) (by omega) (tab_up2 (HT.out.on H4.out)) HL.out).mono ?_
  rintro e w2 ⟨rfl, g1, g2, g3, g4⟩
  have hd2 : w2.cell? ⟨w.heap.size + 1 + 2, 1, none⟩ = some (.pointer (some ⟨w.heap.size + 1 + 1, 0, none⟩)) := cell_of_heap g1
  have G2 := Lib.hid g2
  have G3 := Lib.hid (H4.out.trans (g3.mono (Nat.le_succ _)))
  clear g1 g2 g3 g4
  go_wp2_with fail
  refine (bufText (w.heap.size + 1) (w.heap.size + 1 + 1) _ w2 G2.out).mono ?_
  rintro e w3 ⟨rfl, rfl⟩
  go_wp2
  go_ret
  exact ⟨rfl, G3.out⟩

set_option maxHeartbeats 1000000 in
theorem durationText (w : World) (htab : Tab w.heap.size w) :
    Calls Tryz.prog 24 #[.int .i64 1500, .int .i64 2] w fun e w' => e = .returned (.string ⟨#[49, 53, 48, 48]⟩) ∧ Below w.heap.size w w' := by
  have hi : (Lib.itoa 1500) = [49, 53, 48, 48] := by decide +kernel
  have HI := Lib.hid hi
  have HT := Lib.hid htab
  have hb0 : Below w.heap.size w (w.alloc (.cells #[.int .i64 1500] 2)) := by go_grown
  have B0 := Lib.hid hb0
  clear hi htab hb0
  go_enter Tryz.func24, Tryz.ntmps24
  go_wp2_with fail
  refine (config (w.alloc (.cells #[.int .i64 1500] 2))).mono ?_
  rintro e w1 ⟨rfl, hb1⟩
  have hk1 : w1.cell? ⟨w.heap.size, 0, none⟩ = some (.int .i64 1500) := by
    rw [hb1.cell (by simp)]
    exact cell_of_heap (heap_alloc_new w _)
  have hb1' := B0.out.trans (hb1.mono (by simp))
  have hs1 : w.heap.size < w1.heap.size := by have := hb1.size; simp at this; omega
  have HK := Lib.hid hk1
  have B1 := Lib.hid hb1'
  clear hb1 hk1 hb1'
  go_wp2_with fail
  refine (valueOf w.heap.size 1500 (by omega) (by omega) w1 HK.out hs1 (tab_up1 (HT.out.on B1.out) (by omega)) (by rw [HI.out]; decide)).mono ?_
  rintro e w2 ⟨rfl, hb2⟩
  have B2 := Lib.hid (B1.out.trans (hb2.mono (by omega)))
  clear hb2
  rw [HI.out]
  go_wp2
  go_ret
  exact ⟨rfl, B2.out⟩

set_option maxHeartbeats 1000000 in
theorem awakeZ (w : World) (htab : Tab w.heap.size w) :
    Calls Tryz.prog 9 #[] w fun e w' => e = .returned (.bool true) ∧ Below w.heap.size w w' := by
  have HT := Lib.hid htab
  clear htab
  go_enter Tryz.func9, Tryz.ntmps9
  go_wp2_with fail
  refine (zlevelLow 0 (by omega) (by omega) w).mono ?_
  rintro e w1 ⟨rfl, hb1⟩
  have B1 := Lib.hid hb1
  have hs := hb1.size
  clear hb1
  rw [show lvB 0 = ⟨#[105, 110, 102, 111]⟩ from rfl]
  go_wp2_with fail
  refine (durationText w1 (tab_up1 (HT.out.on B1.out) hs)).mono ?_
  rintro e w2 ⟨rfl, hb2⟩
  have B2 := Lib.hid (B1.out.trans (hb2.mono hs))
  clear hb2
  go_wp2
  go_ret
  exact ⟨rfl, B2.out⟩
end Go.Proofs.YtlnidnihhfjcpaaGreatDoor
