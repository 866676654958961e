/- The contract of side: a decimal against a float's end. No conditions beyond each theorem's own. -/
import Derived.Test.YtkkipddgkfidmaaGreatDoorKc
import Derived.Test.YtkkipddgkfidmaaGreatDoorQg
namespace Go.Proofs.YtkkipddgkfidmaaGreatDoor
open Go.RowKit

theorem nz_two (w : World) (a b : Int) (m : Nat) (ha : a = ((m % 4294967296 : Nat) : Int)) (hb : b = ((m / 4294967296 : Nat) : Int)) (hm : m < 18446744073709551616) : Nz 0 (.slice (some ⟨w.heap.size, 0, none⟩) 2 2) [m % 4294967296, m / 4294967296] (w.alloc (.cells #[.int .u32 a, .int .u32 b] 69)) := by
  subst ha
  subst hb
  refine ⟨⟨w.heap.size, 2, _, rfl, Nat.zero_le _, heap_alloc_new w _, Nat.le_refl _, by decide, rfl, rfl⟩, ?_⟩
  intro x hx
  simp only [List.mem_cons, List.not_mem_nil, or_false] at hx
  rcases hx with rfl | rfl
  · exact Nat.mod_lt _ (by decide)
  · omega
theorem nv_two (m : Nat) : nv [m % 4294967296, m / 4294967296] = m := by
  simp only [nv]
  omega

set_option maxRecDepth 100000 in
set_option maxHeartbeats 4000000 in
theorem fside (va : Value) (L : List Nat) (hL : L.length ≤ 2000) (e k : Int) (he0 : -2000 ≤ e) (he1 : e ≤ 2000) (hk0 : -2000 ≤ k) (hk1 : k ≤ 2000) (m : Nat) (hm : m < 18446744073709551616) (w : World) (ha : Nz 0 va L w) :
    Calls Tryz.prog 19 #[va, .int .i64 e, .int .u64 (m : Int), .int .i64 k] w fun r w' => r = .returned (.int .i64 (cmpI (sideX (nv L) e k) (sideY m e k))) ∧ Below w.heap.size w w' := by
  have HA := Lib.hid ha
  have hmi : (m : Int) < 18446744073709551616 := by omega
  clear ha
  go_enter Tryz.func19, Tryz.ntmps19
  go_upto_region 2 with (fail)
  generalize hW : World.alloc _ _ = W
  have hz : Nz 0 (.slice (some ⟨w.heap.size, 0, none⟩) 2 2) [m % 4294967296, m / 4294967296] W := by
    rw [← hW]
    exact nz_two w _ _ m (by first | rfl | omega | simp) (by first | rfl | omega | simp) hm
  have hbW : Below w.heap.size w W := by rw [← hW]; exact (Below.refl _ w).alloc (Nat.le_refl _) _
  have Z := Lib.hid hz
  have A := Lib.hid (HA.out.later hbW)
  have BW := Lib.hid hbW
  clear hW hz hbW hm hmi
  generalize Value.slice (some ⟨w.heap.size, 0, none⟩) 2 2 = vy at Z ⊢
  go_upto_if 19 with (fail)
  go_cut [9, 10] from 18 to 26 (fun s9 s10 wx => ∃ X Y, Nz 0 s9 X wx ∧ Nz 0 s10 Y wx ∧ nv X = nv L * 10 ^ e.toNat ∧ nv Y = m * 10 ^ (-e).toNat ∧ X.length ≤ 4100 ∧ Y.length ≤ 4100 ∧ Below w.heap.size w wx)
  case first =>
    by_cases h : 0 ≤ e
    · obtain ⟨n, rfl⟩ := Int.eq_ofNat_of_zero_le h
      have hge : (n : Int) ≥ 0 := by omega
      go_wp2_with fail
      refine (ftens 0 va L n (by omega) (by omega) W A.out).mono ?_
      rintro r w1 ⟨v', M, rfl, h1, h2, h3, h4⟩
      have S1 := Lib.hid h1
      have S2 := Lib.hid h2
      have S3 := Lib.hid h3
      have S4 := Lib.hid h4
      clear h1 h2 h3 h4
      go_wp2_with fail
      go_meet
      refine ⟨M, _, S1.out, Z.out.later S4.out, by rw [S2.out]; rfl, ?_, by have := S3.out; omega, by simp, BW.out.trans (S4.out.mono BW.out.size)⟩
      rw [nv_two, show (-(n : Int)).toNat = 0 by omega, Nat.pow_zero, Nat.mul_one]
    · obtain ⟨n, hn⟩ : ∃ n : Nat, -e = n := ⟨(-e).toNat, by omega⟩
      have hge : ¬ e ≥ 0 := by omega
      go_wp2_with fail
      refine (ftens 0 vy _ n (by omega) (by simp) W Z.out).mono ?_
      rintro r w1 ⟨v', M, rfl, h1, h2, h3, h4⟩
      have S1 := Lib.hid h1
      have S2 := Lib.hid h2
      have S3 := Lib.hid h3
      have S4 := Lib.hid h4
      have HN := Lib.hid hn
      clear h1 h2 h3 h4 hn
      go_wp2_with fail
      go_meet
      refine ⟨L, M, A.out.later S4.out, S1.out, ?_, ?_, by omega, by have := S3.out; simp at this; have := HN.out; omega, BW.out.trans (S4.out.mono BW.out.size)⟩
      · rw [show e.toNat = 0 by omega, Nat.pow_zero, Nat.mul_one]
      · rw [S2.out, nv_two, HN.out]
        rfl
  case rest =>
    obtain ⟨X, Y, hX, hY, hvX, hvY, hlX, hlY, hb⟩ := hcut
    clear A Z BW
    have A := Lib.hid hX
    have Z := Lib.hid hY
    have VX := Lib.hid hvX
    have VY := Lib.hid hvY
    have BW := Lib.hid hb
    clear hX hY hvX hvY hb
    go_upto_if 28 with (fail)
    go_cut [9, 10] from 27 to 35 (fun s9 s10 wx => ∃ X Y, Nz 0 s9 X wx ∧ Nz 0 s10 Y wx ∧ nv X = nv L * 10 ^ e.toNat * 2 ^ (-k).toNat ∧ nv Y = m * 10 ^ (-e).toNat * 2 ^ k.toNat ∧ X.length ≤ 20000 ∧ Y.length ≤ 20000 ∧ Below w.heap.size w wx)
    case first =>
      by_cases h : 0 ≤ k
      · obtain ⟨n, rfl⟩ := Int.eq_ofNat_of_zero_le h
        have hge : (n : Int) ≥ 0 := by omega
        go_wp2_with fail
        refine (fshifted 0 _ Y n (by omega) (by omega) wc Z.out).mono ?_
        rintro r w1 ⟨v', M, rfl, h1, h2, h3, h4⟩
        have S1 := Lib.hid h1
        have S2 := Lib.hid h2
        have S3 := Lib.hid h3
        have S4 := Lib.hid h4
        clear h1 h2 h3 h4
        go_wp2_with fail
        go_meet
        refine ⟨X, M, A.out.later S4.out, S1.out, ?_, ?_, by omega, by have := S3.out; omega, BW.out.trans (S4.out.mono BW.out.size)⟩
        · rw [VX.out, show (-(n : Int)).toNat = 0 by omega, Nat.pow_zero, Nat.mul_one]
        · rw [S2.out, VY.out]
          rfl
      · obtain ⟨n, hn⟩ : ∃ n : Nat, -k = n := ⟨(-k).toNat, by omega⟩
        have hge : ¬ k ≥ 0 := by omega
        go_wp2_with fail
        refine (fshifted 0 _ X n (by omega) (by omega) wc A.out).mono ?_
        rintro r w1 ⟨v', M, rfl, h1, h2, h3, h4⟩
        have S1 := Lib.hid h1
        have S2 := Lib.hid h2
        have S3 := Lib.hid h3
        have S4 := Lib.hid h4
        have HN := Lib.hid hn
        clear h1 h2 h3 h4 hn
        go_wp2_with fail
        go_meet
        refine ⟨M, Y, S1.out, Z.out.later S4.out, ?_, ?_, by have := S3.out; have := HN.out; omega, by omega, BW.out.trans (S4.out.mono BW.out.size)⟩
        · rw [S2.out, VX.out, HN.out]
          rfl
        · rw [VY.out, show k.toNat = 0 by omega, Nat.pow_zero, Nat.mul_one]
    case rest =>
      obtain ⟨X', Y', hX, hY, hvX, hvY, hlX', hlY', hb⟩ := hcut
      clear A Z BW VX VY
      have VX := Lib.hid hvX
      have VY := Lib.hid hvY
      have BW := Lib.hid hb
      have C := Lib.hid (forder _ _ X' Y' hlX' hlY' wc hX hY)
      clear hX hY hvX hvY hb
      go_wp2_with fail
      refine C.out.mono ?_
      rintro r w1 ⟨rfl, h4⟩
      have S4 := Lib.hid h4
      clear h4
      rw [VX.out, VY.out]
      go_wp2
      go_ret
      exact ⟨rfl, BW.out.trans (S4.out.mono BW.out.size)⟩
end Go.Proofs.YtkkipddgkfidmaaGreatDoor
