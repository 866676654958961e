/- shortFloat at 64 bits, at a float that is no power of two: its answer lies in the float's rounding interval. No conditions beyond each theorem's own. -/
import Derived.Test.YtkkipddgkfidmaaGreatDoorVd
import Derived.Test.YtkkipddgkfidmaaGreatDoorQe
namespace Go.Proofs.YtkkipddgkfidmaaGreatDoor
open Go.RowKit

theorem and1i (u : Nat) (h : u < 9223372036854775808) : bits .and .i64 (u : Int) 1 = ((u % 2 : Nat) : Int) := by
  have := (bits_nat .i64 63 (by decide) (fun n h0 h1 => by simp [IntKind.wrap, IntKind.bits, IntKind.signed]; omega) u 1 (by omega) (by decide)).1
  rw [Nat.and_one_is_mod] at this
  exact this

theorem row_facts2 {q p : Int} {b d : Nat} (hrow : rowOk q b d = true) (hp : l10 q = -p) : 0 ≤ q + l2 p ∧ q + l2 p ≤ 3 ∧ (entry p).1 < 18446744073709551616 ∧ 1 ≤ (entry p).1 ∧ (entry p).2 < 18446744073709551616 := by
  obtain ⟨f0, f1, _, _, _⟩ := row_facts hrow hp
  unfold rowOk fits at hrow
  have hpp : -(l10 q) = p := by omega
  simp only [hpp, Bool.and_eq_true, decide_eq_true_eq] at hrow
  obtain ⟨⟨⟨⟨⟨⟨⟨⟨⟨⟨⟨⟨e1, e2⟩, e3⟩, e4⟩, h0⟩, h2⟩, h3⟩, h4⟩, hg1⟩, hg2⟩, hg⟩, h5⟩, h6⟩ := hrow
  refine ⟨by omega, by omega, e2, ?_, e1⟩
  rcases Nat.eq_zero_or_pos (entry p).1 with h | h
  · exfalso
    rw [h] at e3
    have h9 : 0 < num q p * 2 ^ (126 - q - l2 p).toNat := Nat.mul_pos (by omega) (Nat.two_pow_pos _)
    simp only [Nat.zero_mul] at e3
    omega
  · exact h

theorem fshort64n (mant : Nat) (q : Int) (h0 : 4503599627370496 ≤ mant) (h1 : mant < 9007199254740992) (hq0 : -1074 ≤ q) (hq1 : q ≤ 971) (hne : mant ≠ 4503599627370496 ∨ q = -1074) (w : World) (hT : PTab w.heap.size w) :
    Calls Tryz.prog 72 #[.int .u64 ((2 * mant * 2 ^ 10 : Nat) : Int), .int .i64 (q - 11)] w fun e w' => (∃ (r : Nat × Bool) (p : Int), e = .returned (sfOut r p) ∧ l10 q = -p ∧ Within q p mant (full r) ∧ 0 < r.1 ∧ r.1 < 100000000000000000 ∧ -348 ≤ p ∧ p ≤ 347) ∧ Below w.heap.size w w' := by
  obtain ⟨b, d, hrow⟩ := row_of q hq0 hq1
  obtain ⟨p, hp⟩ : ∃ p, l10 q = -p := ⟨-(l10 q), by omega⟩
  obtain ⟨f0, f1, f2, f3, f4⟩ := row_facts hrow hp
  obtain ⟨g0, g1, g2, g3, g4⟩ := row_facts2 hrow hp
  obtain ⟨s, hs⟩ : ∃ s : Nat, ((10 : Nat) : Int) - q - l2 p - 2 = s := ⟨(8 - q - l2 p).toNat, by omega⟩
  have hc := chosen (mant := mant) (t := 10) hrow hp (by omega) h1 (by omega) (by omega) hs
  obtain ⟨c1, c2, c3, c4⟩ := hc
  have hl : -2000 ≤ l2 p ∧ l2 p ≤ 2000 := by unfold l2; omega
  have hod : bits BinOp.and IntKind.i64 (((2 * mant * 2 ^ 10 : Nat) : Int) / 2048) 1 = ((mant % 2 : Nat) : Int) := by
    rw [show (((2 * mant * 2 ^ 10 : Nat) : Int) / 2048) = (mant : Int) by omega]
    exact and1i mant (by omega)
  by_cases hm : mant = 4503599627370496
  · have hq : q = -1074 := by rcases hne with h | h; exact absurd hm h; exact h
    refine (short64n_true (2 * mant * 2 ^ 10) (q - 11) p ((2 * mant - 1) * 2 ^ 10) ((2 * mant + 1) * 2 ^ 10) (mant % 2) (348 + p).toNat (entry p).1 (entry p).2 s q (by omega) (by omega) (by omega) (by omega) (by omega) (by rw [beq_iff_eq]; omega) (by omega) (by omega) (by omega) (by omega) hod (by omega) (by omega) hp (by omega) (by omega) (by omega) (by omega) (by omega) (by omega) (by omega) hl.1 hl.2 rfl g2 g3 g4 c4 w hT).mono ?_
    rintro e w' ⟨he, hb⟩
    exact ⟨⟨_, p, he, hp, c1, c2, c3, by omega, by omega⟩, hb⟩
  · refine (short64n_false (2 * mant * 2 ^ 10) (q - 11) p ((2 * mant - 1) * 2 ^ 10) ((2 * mant + 1) * 2 ^ 10) (mant % 2) (348 + p).toNat (entry p).1 (entry p).2 s q (by omega) (by omega) (by omega) (by omega) (by omega) (by rw [beq_eq_false_iff_ne]; omega) (by omega) (by omega) (by omega) hod (by omega) (by omega) hp (by omega) (by omega) (by omega) (by omega) (by omega) (by omega) (by omega) hl.1 hl.2 rfl g2 g3 g4 c4 w hT).mono ?_
    rintro e w' ⟨he, hb⟩
    exact ⟨⟨_, p, he, hp, c1, c2, c3, by omega, by omega⟩, hb⟩
end Go.Proofs.YtkkipddgkfidmaaGreatDoor
