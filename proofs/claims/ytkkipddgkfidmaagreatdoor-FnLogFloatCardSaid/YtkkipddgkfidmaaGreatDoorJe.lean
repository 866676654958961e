/- The contract of JRead, at a number. No conditions beyond each theorem's own. -/
import Derived.Test.YtkkipddgkfidmaaGreatDoorJd
namespace Go.Proofs.YtkkipddgkfidmaaGreatDoor
open Go.RowKit

set_option maxRecDepth 100000 in
set_option maxHeartbeats 8000000 in
theorem fJRead (s : ByteArray) (neg : Bool) (p1 p2 p3 nF : Nat) (X : Option (Bool × List UInt8)) (hN : NumAt s neg p1 p2 p3 nF X) (w : World) :
    Calls Tryz.prog 6 #[.string s] w fun r w' => (∃ t, r = .returned (.tuple #[.agg #[.int .i64 3, .string t, .slice none 0 0, .slice none 0 0], .bool true])) ∧ Below w.heap.size w w' := by
  have hsz := hN.sz
  have HNN := Lib.hid hN
  clear hN
  go_enter Tryz.func6, Tryz.ntmps6
  go_upto_region 2 with (fail)
  generalize hW : World.alloc _ _ = W
  obtain ⟨A, hA⟩ : ∃ A, w.heap.size = A := ⟨_, rfl⟩
  have HAA := Lib.hid hA
  have hbA : W.heap[A]? = some (.cells #[.int .i64 0, .string ⟨#[]⟩, .slice none 0 0, .slice none 0 0] 29 (0, 0)) := by
    rw [← hW, Below.heap_alloc _ _ _ (by show A < (w.alloc _).heap.size; simp; omega), ← hA]
    exact heap_alloc_new w _
  have hrW : Rd (A + 1) s 0 0 W := by
    rw [← hW, ← hA]
    have := heap_alloc_new (w.alloc (.cells #[.int .i64 0, .string ⟨#[]⟩, .slice none 0 0, .slice none 0 0] 29)) (.cells #[.string s, .int .i64 0, .int .i64 0] 44)
    unfold Rd
    simpa using this
  have hWb : Below A w W := by
    rw [← hW, ← hA]
    exact ((Below.refl _ w).alloc (Nat.le_refl _) _).alloc (by simp) _
  rw [hA]
  have HA := Lib.hid hbA
  have HR := Lib.hid hrW
  have HB := Lib.hid hWb
  have hWs : A < W.heap.size := lt_of_block hbA
  clear hW hA hbA hrW hWb
  go_wp2_with fail
  refine (fvalue s neg p1 p2 p3 nF X HNN.out (A + 1) 0 (by decide) (by decide) W HR.out).mono ?_
  rintro e' w1 ⟨⟨t, rfl⟩, h1, h2⟩
  have hb1 := (h2.2 A (by omega) hWs).trans HA.out
  have R1 := Lib.hid h1
  have B1 := Lib.hid (HB.out.trans (h2.1.mono (Nat.le_succ A)))
  have hw1s : A < w1.heap.size := lt_of_block hb1
  have H1 := Lib.hid hb1
  clear h1 h2 hb1
  go_upto_region 3 with (fail)
  generalize hW2 : World.alloc _ _ = W2
  obtain ⟨C, hC⟩ : ∃ C, w1.heap.size = C := ⟨_, rfl⟩
  have hCb : W2.heap[C]? = some (.cells #[.int .i64 3, .string t, .slice none 0 0, .slice none 0 0] 29 (0, 0)) := by
    rw [← hW2, ← hC]
    exact heap_alloc_new w1 _
  have hA2 := H1.out
  have hR2 : Rd (A + 1) s s.size 0 W2 := by
    rw [← hW2]
    unfold Rd
    rw [Below.heap_alloc _ _ _ (lt_of_block R1.out)]
    exact R1.out
  have hAb : W2.heap[A]? = some (.cells #[.int .i64 0, .string ⟨#[]⟩, .slice none 0 0, .slice none 0 0] 29 (0, 0)) := by
    rw [← hW2, Below.heap_alloc _ _ _ hw1s]
    exact hA2
  have hB2 : Below A w W2 := by
    rw [← hW2]
    exact B1.out.alloc (Nat.le_of_lt hw1s) _
  rw [hC]
  have HC := Lib.hid hCb
  have HR2 := Lib.hid hR2
  have HA2 := Lib.hid hAb
  have HB2 := Lib.hid hB2
  clear hW2 hC hCb hA2 hR2 hAb hB2
  go_wp2_with fail
  refine (blanksEnd (A + 1) s s.size rfl W2 (rd0 HR2.out) (rd1 HR2.out)).mono ?_
  rintro e' w3 ⟨rfl, m, rfl⟩
  have b3 : Below A w (W2.drewN m) := HB2.out.trans (below_drewN A W2 m)
  have HC3 : (W2.drewN m).heap[C]? = _ := HC.out
  have HR3 : Rd (A + 1) s s.size 0 (W2.drewN m) := HR2.out
  have HA3 : (W2.drewN m).heap[A]? = _ := HA2.out
  go_upto_region 4 with (fail)
  generalize W2.drewN m = x7 at b3 HC3 HR3 HA3 ⊢
  have c1 := rd1 HR3
  have v0 : x7.cell? ⟨C, 0, none⟩ = some (.int .i64 3) := by rw [cell_at HC3]; rfl
  have v1 : x7.cell? ⟨C, 1, none⟩ = some (.string t) := by rw [cell_at HC3]; rfl
  have v2 : x7.cell? ⟨C, 2, none⟩ = some (.slice none 0 0) := by rw [cell_at HC3]; rfl
  have v3 : x7.cell? ⟨C, 3, none⟩ = some (.slice none 0 0) := by rw [cell_at HC3]; rfl
  have g0 : x7.cell? ⟨A, 0, none⟩ = some (.int .i64 0) := by rw [cell_at HA3]; rfl
  have g1 : x7.cell? ⟨A, 1, none⟩ = some (.string ⟨#[]⟩) := by rw [cell_at HA3]; rfl
  have g2 : x7.cell? ⟨A, 2, none⟩ = some (.slice none 0 0) := by rw [cell_at HA3]; rfl
  have g3 : x7.cell? ⟨A, 3, none⟩ = some (.slice none 0 0) := by rw [cell_at HA3]; rfl
  have k0 : x7.frozen? ⟨A, 0, none⟩ = false := free_at HA3
  have k1 : x7.frozen? ⟨A, 1, none⟩ = false := free_at HA3
  have k2 : x7.frozen? ⟨A, 2, none⟩ = false := free_at HA3
  have k3 : x7.frozen? ⟨A, 3, none⟩ = false := free_at HA3
  have HB3 := Lib.hid b3
  have HAF := Lib.hid HA3
  clear b3 HC3 HR3 HA3
  go_region
  all_goals
    generalize hx8 : World.drew _ = x8
    have hs := store4 (j := A) (t := t) (Nat.le_refl _) HAF.out rfl
    have hld : (loadVar 29 ⟨A, 0, none⟩).run Tryz.prog x8 = .ok (.agg #[.int .i64 3, .string t, .slice none 0 0, .slice none 0 0]) x8 := load29 (by rw [← hx8]; exact hs.1)
    have hbx : Below A w x8 := by rw [← hx8]; exact (HB3.out.trans hs.2.2).drew
    have HX := Lib.hid hbx
    have HL := Lib.hid hld
    clear hx8 hs hbx hld v0 v1 v2 v3 g0 g1 g2 g3 k0 k1 k2 k3 c1
    go_wp2
    (try simp only [Exit.inBlock, Exit.then])
    refine bodyPost_ret (v := .tuple #[.agg #[.int .i64 3, .string t, .slice none 0 0, .slice none 0 0], .bool true]) ?_ rfl ⟨⟨t, rfl⟩, by rw [HAA.out]; exact HX.out⟩
    have hld := HL.out
    rw [results_cell_tmp rfl]
    simp [asAddr, Result.andThen, hld]
end Go.Proofs.YtkkipddgkfidmaaGreatDoor
