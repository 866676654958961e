/- The contracts of nat's tens and shifted. No conditions beyond each theorem's own. -/
import Derived.Test.YtkkipddgkfidmaaGreatDoorKa
namespace Go.Proofs.YtkkipddgkfidmaaGreatDoor
open Go.RowKit

/-- times of a row that lies in the world. -/
theorem ftimesZ (B : Nat) (v : Value) (L : List Nat) (by' more : Nat) (hL : L.length ≤ 50000) (hby : by' < 4294967296) (hmore : more < 4294967296) (w : World) (hz : Nz B v L w) :
    Calls Tryz.prog 28 #[v, .int .u32 (by' : Int), .int .u32 (more : Int)] w fun e w' => ∃ v' M, e = .returned v' ∧ Nz w.heap.size v' M w' ∧ nv M = nv L * by' + more ∧ M.length ≤ L.length + 1 ∧ Below w.heap.size w w' := by
  obtain ⟨⟨g, cap, cur, rfl, hB, hg, hc, hm, hs, ht⟩, hx⟩ := hz
  exact ftimes (some ⟨g, 0, none⟩) cap L by' more hL hx hby hmore w (fun i h => ⟨g, rfl, lt_of_block hg, ucell hg ht i h⟩)

/-- A row that lies in the world, whatever it is bound to. -/
theorem Nz.free {B : Nat} {v : Value} {l : List Nat} {w : World} (h : Nz B v l w) : Nz 0 v l w := h.mono (Nat.zero_le _)

set_option maxRecDepth 100000 in
set_option maxHeartbeats 4000000 in
theorem ftens (B : Nat) (v : Value) (L : List Nat) (n : Nat) (hn : n ≤ 2000) (hL : L.length ≤ 10000) (w : World) (hz : Nz B v L w) :
    Calls Tryz.prog 30 #[v, .int .i64 (n : Int)] w fun e w' => ∃ v' M, e = .returned v' ∧ Nz 0 v' M w' ∧ nv M = nv L * 10 ^ n ∧ M.length ≤ L.length + n ∧ Below w.heap.size w w' := by
  have HZ := Lib.hid hz.free
  clear hz
  go_enter Tryz.func30, Tryz.ntmps30
  go_wp2
  go_loopg [0, 1] n (fun gg s0 s1 wr => ∃ (k : Nat) (M : List Nat), k = gg ∧ k ≤ n ∧ s1 = .int .i64 (k : Int) ∧ Nz 0 s0 M wr ∧ nv M * 10 ^ k = nv L * 10 ^ n ∧ M.length + k ≤ L.length + n ∧ Below w.heap.size w wr)
  case atStart => exact ⟨n, L, rfl, Nat.le_refl _, rfl, HZ.out, rfl, Nat.le_refl _, Below.refl _ _⟩
  case round =>
    obtain ⟨k, M, rfl, hk, rfl, hM, hv, hl, hb⟩ := hrel
    have R1 := Lib.hid hM
    have R2 := Lib.hid hv
    have R3 := Lib.hid hl
    have R4 := Lib.hid hb
    clear hM hv hl hb
    by_cases h9 : 9 ≤ k
    · have h9' : (k : Int) ≥ 9 := by omega
      go_wp2_with fail
      refine (ftimesZ 0 u0 M 1000000000 0 (by have := R3.out; omega) (by decide) (by decide) wr R1.out).mono ?_
      rintro e w1 ⟨v', M', rfl, h1, h2, h3, h4⟩
      have S1 := Lib.hid h1.free
      have S2 := Lib.hid h2
      have S3 := Lib.hid h3
      have S4 := Lib.hid (R4.out.trans (h4.mono R4.out.size))
      clear h1 h2 h3 h4
      go_wp2
      go_roundg (k - 9)
      case measure => omega
      case rel =>
        refine ⟨k - 9, M', rfl, by omega, by first | rfl | (congr 1; omega), S1.out, ?_, by have := S3.out; have := R3.out; omega, S4.out⟩
        rw [← R2.out, S2.out, Nat.add_zero, Nat.mul_assoc]
        have : (10 : Nat) ^ k = 1000000000 * 10 ^ (k - 9) := by
          rw [show (1000000000 : Nat) = 10 ^ 9 by decide, ← Nat.pow_add]
          congr 1
          omega
        rw [this]
    · have h9' : ¬ (k : Int) ≥ 9 := by omega
      go_wp2
      go_loopg [0, 1] k (fun gg s0 s1 wr => ∃ (k : Nat) (M : List Nat), k = gg ∧ k ≤ n ∧ s1 = .int .i64 (k : Int) ∧ Nz 0 s0 M wr ∧ nv M * 10 ^ k = nv L * 10 ^ n ∧ M.length + k ≤ L.length + n ∧ Below w.heap.size w wr)
      case atStart => exact ⟨k, M, rfl, hk, rfl, R1.out, R2.out, R3.out, R4.out⟩
      case round =>
        obtain ⟨k, M, rfl, hk, rfl, hM, hv, hl, hb⟩ := hrel
        clear R1 R2 R3 R4
        have R1 := Lib.hid hM
        have R2 := Lib.hid hv
        have R3 := Lib.hid hl
        have R4 := Lib.hid hb
        clear hM hv hl hb
        by_cases h0 : 0 < k
        · have h0' : (k : Int) > 0 := by omega
          go_wp2_with fail
          refine (ftimesZ 0 _ M 10 0 (by have := R3.out; omega) (by decide) (by decide) wr R1.out).mono ?_
          rintro e w1 ⟨v', M', rfl, h1, h2, h3, h4⟩
          have S1 := Lib.hid h1.free
          have S2 := Lib.hid h2
          have S3 := Lib.hid h3
          have S4 := Lib.hid (R4.out.trans (h4.mono R4.out.size))
          clear h1 h2 h3 h4
          go_wp2
          go_roundg (k - 1)
          case measure => omega
          case rel =>
            refine ⟨k - 1, M', rfl, by omega, by first | rfl | (congr 1; omega), S1.out, ?_, by have := S3.out; have := R3.out; omega, S4.out⟩
            rw [← R2.out, S2.out, Nat.add_zero, Nat.mul_assoc]
            have : (10 : Nat) ^ k = 10 * 10 ^ (k - 1) := by
              rw [Nat.mul_comm, ← Nat.pow_succ]
              congr 1
              omega
            rw [this]
        · have h0' : ¬ (k : Int) > 0 := by omega
          go_wp2
          go_ret
          refine ⟨_, rfl, M, R1.out, ?_, by have := R3.out; omega, R4.out⟩
          have := R2.out
          rw [show k = 0 by omega, Nat.pow_zero, Nat.mul_one] at this
          exact this

set_option maxRecDepth 100000 in
set_option maxHeartbeats 4000000 in
theorem fshifted (B : Nat) (v : Value) (L : List Nat) (n : Nat) (hn : n ≤ 2000) (hL : L.length ≤ 10000) (w : World) (hz : Nz B v L w) :
    Calls Tryz.prog 31 #[v, .int .i64 (n : Int)] w fun e w' => ∃ v' M, e = .returned v' ∧ Nz 0 v' M w' ∧ nv M = nv L * 2 ^ n ∧ M.length ≤ L.length + n + 1 ∧ Below w.heap.size w w' := by
  have HZ := Lib.hid hz.free
  clear hz
  go_enter Tryz.func31, Tryz.ntmps31
  go_wp2
  go_loopg [0, 1] n (fun gg s0 s1 wr => ∃ (k : Nat) (M : List Nat), k = gg ∧ k ≤ n ∧ s1 = .int .i64 (k : Int) ∧ Nz 0 s0 M wr ∧ nv M * 2 ^ k = nv L * 2 ^ n ∧ M.length + k ≤ L.length + n ∧ Below w.heap.size w wr)
  case atStart => exact ⟨n, L, rfl, Nat.le_refl _, rfl, HZ.out, rfl, Nat.le_refl _, Below.refl _ _⟩
  case round =>
    obtain ⟨k, M, rfl, hk, rfl, hM, hv, hl, hb⟩ := hrel
    have R1 := Lib.hid hM
    have R2 := Lib.hid hv
    have R3 := Lib.hid hl
    have R4 := Lib.hid hb
    clear hM hv hl hb
    by_cases h9 : 31 ≤ k
    · have h9' : (k : Int) ≥ 31 := by omega
      go_wp2_with fail
      refine (ftimesZ 0 u0 M 2147483648 0 (by have := R3.out; omega) (by decide) (by decide) wr R1.out).mono ?_
      rintro e w1 ⟨v', M', rfl, h1, h2, h3, h4⟩
      have S1 := Lib.hid h1.free
      have S2 := Lib.hid h2
      have S3 := Lib.hid h3
      have S4 := Lib.hid (R4.out.trans (h4.mono R4.out.size))
      clear h1 h2 h3 h4
      go_wp2
      go_roundg (k - 31)
      case measure => omega
      case rel =>
        refine ⟨k - 31, M', rfl, by omega, by first | rfl | (congr 1; omega), S1.out, ?_, by have := S3.out; have := R3.out; omega, S4.out⟩
        rw [← R2.out, S2.out, Nat.add_zero, Nat.mul_assoc]
        have : (2 : Nat) ^ k = 2147483648 * 2 ^ (k - 31) := by
          rw [show (2147483648 : Nat) = 2 ^ 31 by decide, ← Nat.pow_add]
          congr 1
          omega
        rw [this]
    · have h9' : ¬ (k : Int) ≥ 31 := by omega
      obtain ⟨P, hP⟩ : ∃ P : Nat, 2 ^ k = P := ⟨_, rfl⟩
      have hP32 : P < 4294967296 := by
        rw [← hP]
        exact Nat.pow_lt_pow_right (a := 2) (by decide) (show k < 32 by omega)
      have hsh : (2 : Int) ^ k % 4294967296 = (P : Int) := by
        rw [show (2 : Int) ^ k = (P : Int) by rw [← hP]; simp]
        omega
      have HPP := Lib.hid hP
      clear hP
      go_wp2_with fail
      refine (ftimesZ 0 u0 M P 0 (by have := R3.out; omega) hP32 (by decide) wr R1.out).mono ?_
      rintro e w1 ⟨v', M', rfl, h1, h2, h3, h4⟩
      have S1 := Lib.hid h1.free
      have S2 := Lib.hid h2
      have S3 := Lib.hid h3
      have S4 := Lib.hid (R4.out.trans (h4.mono R4.out.size))
      clear h1 h2 h3 h4
      go_wp2
      go_ret
      first
        | exact ⟨_, M', rfl, S1.out, by rw [S2.out, Nat.add_zero, ← HPP.out]; exact R2.out, by have := S3.out; have := R3.out; omega, S4.out⟩
        | exact ⟨_, rfl, M', S1.out, by rw [S2.out, Nat.add_zero, ← HPP.out]; exact R2.out, by have := S3.out; have := R3.out; omega, S4.out⟩
end Go.Proofs.YtkkipddgkfidmaaGreatDoor
