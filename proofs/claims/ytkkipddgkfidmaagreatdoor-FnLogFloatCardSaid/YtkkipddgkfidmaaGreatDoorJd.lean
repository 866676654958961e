/- The contract of the reader's value, at a number. No conditions beyond each theorem's own. -/
import Derived.Test.YtkkipddgkfidmaaGreatDoorJc
import Derived.Defers
namespace Go.Proofs.YtkkipddgkfidmaaGreatDoor
open Go.RowKit

set_option maxHeartbeats 1000000 in
theorem f23 (A j : Nat) (deep : Int) (h0 : 0 ≤ deep) (h1 : deep ≤ 1000) (u : FrameMode) (w : World) (c0 : w.cell? ⟨A, 0, none⟩ = some (.pointer (some ⟨j, 0, none⟩))) (c2 : w.cell? ⟨j, 2, none⟩ = some (.int .i64 (deep + 1))) (f2 : w.frozen? ⟨j, 2, none⟩ = false) :
    CallsD Tryz.prog 23 #[.pointer (some ⟨A, 0, none⟩)] u w fun e u' w' => u' = u ∧ (e = .returned (.tuple #[]) ∧ w' = w.setCell ⟨j, 2, none⟩ (.int .i64 deep)) := by
  have hd : deep + 1 - 1 = deep := by omega
  go_enter_d Tryz.func23, Tryz.ntmps23
  go_wp2
  go_end0
  exact ⟨rfl, rfl⟩

theorem store4 {x7 x8 : World} {G j : Nat} {t : ByteArray} (hjG : j ≤ G) (hG : x7.heap[G]? = some (.cells #[.int .i64 0, .string ⟨#[]⟩, .slice none 0 0, .slice none 0 0] 29 (0, 0)))
    (h : (((x7.setCell ⟨G, 0, none⟩ (.int .i64 3)).setCell ⟨G, 1, none⟩ (.string t)).setCell ⟨G, 2, none⟩ (.slice none 0 0)).setCell ⟨G, 3, none⟩ (.slice none 0 0) = x8) :
    x8.heap[G]? = some (.cells #[.int .i64 3, .string t, .slice none 0 0, .slice none 0 0] 29 (0, 0)) ∧ (∀ k, k ≠ G → x8.heap[k]? = x7.heap[k]?) ∧ Below j x7 x8 := by
  subst h
  refine ⟨setCell_block (setCell_block (setCell_block (setCell_block hG 0 (.int .i64 3)) 1 (.string t)) 2 (.slice none 0 0)) 3 (.slice none 0 0), fun k hk => ?_, ?_⟩
  · rw [Below.heap_setCell _ _ _ _ hk, Below.heap_setCell _ _ _ _ hk, Below.heap_setCell _ _ _ _ hk, Below.heap_setCell _ _ _ _ hk]
  · exact ((((Below.refl j x7).setCell (p := ⟨G, 0, none⟩) hjG _).setCell (p := ⟨G, 1, none⟩) hjG _).setCell (p := ⟨G, 2, none⟩) hjG _).setCell (p := ⟨G, 3, none⟩) hjG _

theorem first_chr {s : ByteArray} {neg : Bool} {p1 p2 p3 nF : Nat} {X : Option (Bool × List UInt8)} (hN : NumAt s neg p1 p2 p3 nF X) : ∃ h : 0 < s.size, 45 ≤ (s[0]'h).toNat ∧ (s[0]'h).toNat ≤ 57 := by
  have hs : 0 < s.size := by have := hN.dI; have := hN.le2; have := hN.le3; omega
  refine ⟨hs, ?_⟩
  cases neg
  · obtain ⟨e, _⟩ := hN.n1 rfl
    have := hN.digI 0 hs (by omega) (by have := hN.dI; omega)
    omega
  · obtain ⟨_, _, e⟩ := hN.n0 rfl
    rw [e]
    decide
theorem first_ne {s : ByteArray} {c : UInt8} (hf : ∃ h : 0 < s.size, 45 ≤ (s[0]'h).toNat ∧ (s[0]'h).toNat ≤ 57) (hc : c.toNat < 45 ∨ 57 < c.toNat) (h : 0 < s.size) : s[0]'h ≠ c := by
  intro e
  obtain ⟨_, h1, h2⟩ := hf
  rw [e] at h1 h2
  omega

set_option maxRecDepth 100000 in
set_option maxHeartbeats 8000000 in
theorem fvalue (s : ByteArray) (neg : Bool) (p1 p2 p3 nF : Nat) (X : Option (Bool × List UInt8)) (hN : NumAt s neg p1 p2 p3 nF X) (j : Nat) (deep : Int) (hd0 : 0 ≤ deep) (hd1 : deep ≤ 1000) (w : World) (hr : Rd j s 0 deep w) :
    Calls Tryz.prog 12 #[.pointer (some ⟨j, 0, none⟩)] w fun r w' => (∃ t, r = .returned (.tuple #[.agg #[.int .i64 3, .string t, .slice none 0 0, .slice none 0 0], .bool true])) ∧ Rd j s s.size deep w' ∧ Old j w w' := by
  have hmf : ∀ (fn : Fn) (first cap : Array Value) (w : World), (Instr.makeFunc fn first cap).run Tryz.prog w = .ok (.func fn first cap) w := fun _ _ _ _ => rfl
  have hjw : j < w.heap.size := lt_of_block hr
  have HF := Lib.hid (first_chr hN)
  have hsz := hN.sz
  have HNN := Lib.hid hN
  have HR := Lib.hid hr
  clear hr hN
  go_enter_defers Tryz.func12, Tryz.ntmps12
  go_upto_region 1 with (fail)
  generalize hW : World.alloc _ _ = W
  obtain ⟨A, hA⟩ : ∃ A, w.heap.size = A := ⟨_, rfl⟩
  have HAA := Lib.hid hA
  have hbA : W.heap[A]? = some (.cells #[.pointer (some ⟨j, 0, none⟩)] 42 (0, 0)) := by
    rw [← hW, Below.heap_alloc _ _ _ (by show A < (w.alloc _).heap.size; simp; omega), ← hA]
    exact heap_alloc_new w _
  have hbG : W.heap[A + 1]? = some (.cells #[.int .i64 0, .string ⟨#[]⟩, .slice none 0 0, .slice none 0 0] 29 (0, 0)) := by
    rw [← hW, ← hA]
    have := heap_alloc_new (w.alloc (.cells #[.pointer (some ⟨j, 0, none⟩)] 42)) (.cells #[.int .i64 0, .string ⟨#[]⟩, .slice none 0 0, .slice none 0 0] 29)
    simpa using this
  have hWw : ∀ k, k < A → W.heap[k]? = w.heap[k]? := fun k hk => by
    rw [← hW, Below.heap_alloc _ _ _ (by show k < (w.alloc _).heap.size; simp; omega), Below.heap_alloc _ _ _ (by omega)]
  have hWs : W.heap.size = A + 2 := by rw [← hW, ← hA]; simp
  have hWb : Below j w W := by
    rw [← hW]
    exact ((Below.refl j w).alloc (Nat.le_of_lt hjw) _).alloc (by simp; omega) _
  rw [hA] at hjw ⊢
  have hrW : Rd j s 0 deep W := by unfold Rd; rw [hWw j hjw]; exact HR.out
  have HA := Lib.hid hbA
  have HG := Lib.hid hbG
  have HWW := Lib.hid hWw
  have HWS := Lib.hid hWs
  have HWB := Lib.hid hWb
  have HRW := Lib.hid hrW
  have cA : W.cell? ⟨A, 0, none⟩ = some (.pointer (some ⟨j, 0, none⟩)) := by rw [cell_at hbA]; rfl
  have c2 : W.cell? ⟨j, 2, none⟩ = some (.int .i64 deep) := by rw [cell_at hrW]; rfl
  have f2 : W.frozen? ⟨j, 2, none⟩ = false := free_at hrW
  have hj2 : deep + 1 ≤ 2000 := by omega
  have hAj : A ≠ j := by omega
  clear hW hA hbA hbG hWw hWs hWb hrW
  go_wp2_with fail
  refine (blanksNone j s 0 HF.out.1 (by have := HF.out.2; omega) (by have := HF.out.2; omega) (by have := HF.out.2; omega) (by have := HF.out.2; omega) W (rd0 HRW.out) (rd1 HRW.out)).mono ?_
  rintro e' w1 ⟨rfl, m, rfl⟩
  go_upto_region 6 with (fail)
  generalize hW2 : World.setCell _ _ _ = x0
  have h1 : Rd j s 0 (deep + 1) x0 := by
    rw [← hW2]
    exact setCell_block (show (W.drewN m).heap[j]? = _ from HRW.out) 2 (.int .i64 (deep + 1))
  have h2 : Only j W x0 := by
    rw [← hW2]
    exact (Only.drewN j W m).trans (Only.set j _ 2 _)
  clear hW2 cA c2 f2
  have hAb := (h2.2.2 A hAj).trans HA.out
  have cA : x0.cell? ⟨A, 0, none⟩ = some (.pointer (some ⟨j, 0, none⟩)) := by rw [cell_at hAb]; rfl
  have R0 := Lib.hid h1
  have Q0 := Lib.hid h2
  clear h1 h2 hAb
  go_wp2_with fail
  refine (hasN j s ⟨#[123]⟩ 0 (deep + 1) (Nat.zero_le _) (by omega) (by decide) (by decide) 123 rfl (first_ne HF.out (by decide)) x0 R0.out).mono ?_
  rintro e' x1 ⟨rfl, h1, h2⟩
  have h2 := Q0.out.trans h2
  have hAb := (h2.2.2 A hAj).trans HA.out
  clear cA
  have cA : x1.cell? ⟨A, 0, none⟩ = some (.pointer (some ⟨j, 0, none⟩)) := by rw [cell_at hAb]; rfl
  have R1 := Lib.hid h1
  have Q1 := Lib.hid h2
  clear h1 h2 hAb R0 Q0
  go_wp2_with fail
  refine (hasN j s ⟨#[91]⟩ 0 (deep + 1) (Nat.zero_le _) (by omega) (by decide) (by decide) 91 rfl (first_ne HF.out (by decide)) x1 R1.out).mono ?_
  rintro e' x2 ⟨rfl, h1, h2⟩
  have h2 := Q1.out.trans h2
  have hAb := (h2.2.2 A hAj).trans HA.out
  clear cA
  have cA : x2.cell? ⟨A, 0, none⟩ = some (.pointer (some ⟨j, 0, none⟩)) := by rw [cell_at hAb]; rfl
  have R2 := Lib.hid h1
  have Q2 := Lib.hid h2
  clear h1 h2 hAb R1 Q1
  go_wp2_with fail
  refine (hasN j s ⟨#[34]⟩ 0 (deep + 1) (Nat.zero_le _) (by omega) (by decide) (by decide) 34 rfl (first_ne HF.out (by decide)) x2 R2.out).mono ?_
  rintro e' x3 ⟨rfl, h1, h2⟩
  have h2 := Q2.out.trans h2
  have hAb := (h2.2.2 A hAj).trans HA.out
  clear cA
  have cA : x3.cell? ⟨A, 0, none⟩ = some (.pointer (some ⟨j, 0, none⟩)) := by rw [cell_at hAb]; rfl
  have R3 := Lib.hid h1
  have Q3 := Lib.hid h2
  clear h1 h2 hAb R2 Q2
  go_wp2_with fail
  refine (hasN j s ⟨#[110, 117, 108, 108]⟩ 0 (deep + 1) (Nat.zero_le _) (by omega) (by decide) (by decide) 110 rfl (first_ne HF.out (by decide)) x3 R3.out).mono ?_
  rintro e' x4 ⟨rfl, h1, h2⟩
  have h2 := Q3.out.trans h2
  have hAb := (h2.2.2 A hAj).trans HA.out
  clear cA
  have cA : x4.cell? ⟨A, 0, none⟩ = some (.pointer (some ⟨j, 0, none⟩)) := by rw [cell_at hAb]; rfl
  have R4 := Lib.hid h1
  have Q4 := Lib.hid h2
  clear h1 h2 hAb R3 Q3
  go_wp2_with fail
  refine (hasN j s ⟨#[116, 114, 117, 101]⟩ 0 (deep + 1) (Nat.zero_le _) (by omega) (by decide) (by decide) 116 rfl (first_ne HF.out (by decide)) x4 R4.out).mono ?_
  rintro e' x5 ⟨rfl, h1, h2⟩
  have h2 := Q4.out.trans h2
  have hAb := (h2.2.2 A hAj).trans HA.out
  clear cA
  have cA : x5.cell? ⟨A, 0, none⟩ = some (.pointer (some ⟨j, 0, none⟩)) := by rw [cell_at hAb]; rfl
  have R5 := Lib.hid h1
  have Q5 := Lib.hid h2
  clear h1 h2 hAb R4 Q4
  go_wp2_with fail
  refine (hasN j s ⟨#[102, 97, 108, 115, 101]⟩ 0 (deep + 1) (Nat.zero_le _) (by omega) (by decide) (by decide) 102 rfl (first_ne HF.out (by decide)) x5 R5.out).mono ?_
  rintro e' x6 ⟨rfl, h1, h2⟩
  have h2 := Q5.out.trans h2
  have hAb := (h2.2.2 A hAj).trans HA.out
  clear cA
  have cA : x6.cell? ⟨A, 0, none⟩ = some (.pointer (some ⟨j, 0, none⟩)) := by rw [cell_at hAb]; rfl
  have R6 := Lib.hid h1
  have Q6 := Lib.hid h2
  clear h1 h2 hAb R5 Q5
  go_wp2_with fail
  refine (fnumber s neg p1 p2 p3 nF X HNN.out j (deep + 1) x6 R6.out).mono ?_
  rintro e' x7 ⟨⟨t, rfl⟩, h1, h2⟩
  have hsz6 : x6.heap.size = A + 2 := by rw [Q6.out.2.1]; exact HWS.out
  have hAb := ((h2.2 A hAj (by omega)).trans (Q6.out.2.2 A hAj)).trans HA.out
  have hGj : A + 1 ≠ j := by omega
  have hGb := ((h2.2 (A + 1) hGj (by omega)).trans (Q6.out.2.2 (A + 1) hGj)).trans HG.out
  have g0 : x7.cell? ⟨A + 1, 0, none⟩ = some (.int .i64 0) := by rw [cell_at hGb]; rfl
  have g1 : x7.cell? ⟨A + 1, 1, none⟩ = some (.string ⟨#[]⟩) := by rw [cell_at hGb]; rfl
  have g2 : x7.cell? ⟨A + 1, 2, none⟩ = some (.slice none 0 0) := by rw [cell_at hGb]; rfl
  have g3 : x7.cell? ⟨A + 1, 3, none⟩ = some (.slice none 0 0) := by rw [cell_at hGb]; rfl
  have k0 : x7.frozen? ⟨A + 1, 0, none⟩ = false := free_at hGb
  have k1 : x7.frozen? ⟨A + 1, 1, none⟩ = false := free_at hGb
  have k2 : x7.frozen? ⟨A + 1, 2, none⟩ = false := free_at hGb
  have k3 : x7.frozen? ⟨A + 1, 3, none⟩ = false := free_at hGb
  have R7 := Lib.hid h1
  have Q7 := Lib.hid h2
  have HA7 := Lib.hid hAb
  have HG7 := Lib.hid hGb
  clear h1 h2 hAb hGb cA
  go_wp2
  generalize hx8 : World.setCell _ _ _ = x8
  obtain ⟨s1, s2, s3⟩ := store4 (j := j) (by omega) HG7.out hx8
  have R8 : Rd j s s.size (deep + 1) x8 := by unfold Rd; rw [s2 j (by omega)]; exact R7.out
  have A8 := (s2 A (by omega)).trans HA7.out
  refine leaves_cons (f := 23) (args := #[.pointer (some ⟨A, 0, none⟩)]) (by simp) (by simp [go_sem]) ?_
  refine (f23 A j deep hd0 hd1 .returning x8 (by rw [cell_at A8]; rfl) (by rw [cell_at R8]; rfl) (free_at R8)).mono ?_
  rintro e' u' x9 ⟨rfl, rfl, rfl⟩
  have R9 : Rd j s s.size deep (x8.setCell ⟨j, 2, none⟩ (.int .i64 deep)) := setCell_block R8 2 (.int .i64 deep)
  have G9 : (x8.setCell ⟨j, 2, none⟩ (.int .i64 deep)).heap[A + 1]? = some (.cells #[.int .i64 3, .string t, .slice none 0 0, .slice none 0 0] 29 (0, 0)) := by
    rw [Below.heap_setCell _ _ _ _ (by show A + 1 ≠ j; omega)]
    exact s1
  have hld := load29 G9
  refine ⟨.tuple #[.agg #[.int .i64 3, .string t, .slice none 0 0, .slice none 0 0], .bool true], ?_, ⟨t, rfl⟩, R9, ?_, ?_⟩
  · rw [results_cell_tmp rfl]
    simp [asAddr, Result.andThen, hld]
  · exact ((((HWB.out.trans Q6.out.1).trans Q7.out.1).trans s3).setCell (p := ⟨j, 2, none⟩) (Nat.le_refl _) _)
  · intro k hk hkl
    rw [HAA.out] at hkl
    rw [Below.heap_setCell _ _ _ _ (by show k ≠ j; exact hk), s2 k (by omega), Q7.out.2 k hk (by omega), Q6.out.2.2 k hk, HWW.out k hkl]
end Go.Proofs.YtkkipddgkfidmaaGreatDoor
