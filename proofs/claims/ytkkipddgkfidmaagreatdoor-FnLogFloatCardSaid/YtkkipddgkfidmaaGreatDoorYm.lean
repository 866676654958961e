/- What shortFloat answers at any float, at both widths, and the parts of a float's word as ftoa takes them. No conditions beyond each theorem's own. -/
import Derived.Test.YtkkipddgkfidmaaGreatDoorYk
import Derived.Test.YtkkipddgkfidmaaGreatDoorQl
import Derived.Test.YtkkipddgkfidmaaGreatDoorQh
import Derived.Laws.BitsLemmas
import Derived.Lib.ItoaNum
namespace Go.Proofs.YtkkipddgkfidmaaGreatDoor
open Go.RowKit

/-- D lies in the float's interval. -/
def Good (hb : Nat) (lq : Int) (mant : Nat) (q p : Int) (D : Nat) : Prop := if mant = hb ∧ lq < q then WithinPow q p mant D else Within q p mant D
/-- u 10^p lies in the float's interval. -/
def Ans (hb : Nat) (lq : Int) (mant : Nat) (q : Int) (u : Nat) (p' : Int) : Prop := ∃ (r : Nat × Bool) (p : Int), u = r.1 ∧ p' = (if r.2 then -(p - 1) else -p) ∧ Good hb lq mant q p (full r)

theorem bitLen_at {x : Nat} (h0 : 0 < x) (h : x < 18446744073709551616) : 1 ≤ Lib.bitLen x ∧ 2 ^ (Lib.bitLen x - 1) ≤ x ∧ x < 2 ^ Lib.bitLen x ∧ Lib.bitLen x ≤ 64 := by
  obtain ⟨a, b, c⟩ := Lib.bitLenAux_bounds 64 x h (by omega)
  exact ⟨a, b, c, Lib.bitLen_le x 64 (Nat.le_refl _) h⟩
theorem bitLen_is {x k : Nat} (h0 : 2 ^ k ≤ x) (h1 : x < 2 ^ (k + 1)) (hk : k < 64) : Lib.bitLen x = k + 1 := by
  have hx0 : 0 < x := Nat.lt_of_lt_of_le (Nat.two_pow_pos k) h0
  have hx : x < 18446744073709551616 := Nat.lt_of_lt_of_le h1 (Nat.pow_le_pow_right (n := 2) (by decide) (show k + 1 ≤ 64 by omega))
  obtain ⟨a, b, c, d⟩ := bitLen_at hx0 hx
  rcases Nat.lt_trichotomy (Lib.bitLen x) (k + 1) with h | h | h
  · have : 2 ^ Lib.bitLen x ≤ 2 ^ k := Nat.pow_le_pow_right (by decide) (by omega)
    omega
  · exact h
  · have : 2 ^ (k + 1) ≤ 2 ^ (Lib.bitLen x - 1) := Nat.pow_le_pow_right (by decide) (by omega)
    omega
theorem bitLen_lt {x k : Nat} (h0 : 0 < x) (h1 : x < 2 ^ k) (hk : k ≤ 64) : 1 ≤ Lib.bitLen x ∧ Lib.bitLen x ≤ k := by
  have hx : x < 18446744073709551616 := Nat.lt_of_lt_of_le h1 (Nat.pow_le_pow_right (n := 2) (by decide) hk)
  exact ⟨(bitLen_at h0 hx).1, Lib.bitLen_le x k hk h1⟩

theorem sf_out {e : Ending} {r : Nat × Bool} {p : Int} (he : e = .returned (sfOut r p)) : e = .returned (.tuple #[.int .u64 (r.1 : Int), .int .i64 (if r.2 then -(p - 1) else -p)]) := he

/-- Where a subnormal float's digits are moved to. -/
theorem sub_shift {mant k sh M : Nat} (h0 : 0 < mant) (h1 : mant < 2 ^ k) (hk : k < 64) (hsh : (64 : Int) - (Lib.bitLen mant : Int) = (sh : Int)) (hM : M = mant * 2 ^ sh) :
    ∃ t T x0 x1 : Nat, sh = t + 1 ∧ 63 - k ≤ t ∧ t < 63 ∧ 2 ^ t = T ∧ 2 * mant * T = M ∧ (2 * mant - 1) * T = x0 ∧ (2 * mant + 1) * T = x1 ∧ x1 < 18446744073709551616 := by
  have hx : mant < 18446744073709551616 := Nat.lt_of_lt_of_le h1 (Nat.pow_le_pow_right (n := 2) (by decide) (show k ≤ 64 by omega))
  obtain ⟨a, b, c, d⟩ := bitLen_at h0 hx
  have hle := (bitLen_lt h0 h1 (by omega)).2
  obtain ⟨t, ht⟩ : ∃ t, sh = t + 1 := ⟨sh - 1, by omega⟩
  refine ⟨t, 2 ^ t, _, _, ht, by omega, by omega, rfl, ?_, rfl, rfl, ?_⟩
  · rw [hM, ht, Nat.pow_succ]
    ac_rfl
  · have h2 : 2 * mant + 1 < 2 ^ (Lib.bitLen mant + 1) := by rw [Nat.pow_succ]; omega
    have h3 : (2 * mant + 1) * 2 ^ t < 2 ^ (Lib.bitLen mant + 1) * 2 ^ t := Nat.mul_lt_mul_of_pos_right h2 (Nat.two_pow_pos t)
    rw [← Nat.pow_add, show Lib.bitLen mant + 1 + t = 64 by omega] at h3
    exact h3

theorem sf64 (mant sh M : Nat) (q E : Int) (h0 : 0 < mant) (h1 : mant < 9007199254740992) (hq0 : -1074 ≤ q) (hq1 : q ≤ 971) (hn : 4503599627370496 ≤ mant ∨ q = -1074) (hsh : (64 : Int) - (Lib.bitLen mant : Int) = (sh : Int)) (hM : M = mant * 2 ^ sh) (hE : E = q - sh) (w : World) (hT : PTab w.heap.size w) :
    Calls Tryz.prog 72 #[.int .u64 (M : Int), .int .i64 E] w fun e w' => (∃ (u : Nat) (p : Int), e = .returned (.tuple #[.int .u64 (u : Int), .int .i64 p]) ∧ Ans 4503599627370496 (-1074) mant q u p ∧ 0 < u ∧ u < 100000000000000000 ∧ -400 ≤ p ∧ p ≤ 400) ∧ Below w.heap.size w w' := by
  by_cases hb : 4503599627370496 ≤ mant
  · have hl : Lib.bitLen mant = 53 := bitLen_is (k := 52) hb h1 (by decide)
    have hs : sh = 11 := by omega
    subst hs
    by_cases hp : mant = 4503599627370496 ∧ -1074 < q
    · obtain ⟨rfl, hq⟩ := hp
      have hM' : M = 9223372036854775808 := hM.trans (by decide)
      subst hM'
      have hE' : E = q - 11 := hE
      subst hE'
      refine (fshort64p q (by omega) hq1 w hT).mono ?_
      rintro e w' ⟨⟨r, p, he, h2, h3, h4, h5, h6⟩, hbl⟩
      refine ⟨⟨r.1, _, sf_out he, ⟨r, p, rfl, rfl, ?_⟩, h3, h4, ?_, ?_⟩, hbl⟩
      · unfold Good
        rw [if_pos ⟨rfl, hq⟩]
        exact h2
      · split <;> omega
      · split <;> omega
    · have hM' : M = 2 * mant * 2 ^ 10 := by rw [hM, Nat.pow_succ]; ac_rfl
      have hE' : E = q - 11 := hE
      rw [hM', hE']
      refine (fshort64n mant q hb h1 hq0 hq1 (by omega) w hT).mono ?_
      rintro e w' ⟨⟨r, p, he, _, h2, h3, h4, h5, h6⟩, hbl⟩
      refine ⟨⟨r.1, _, sf_out he, ⟨r, p, rfl, rfl, ?_⟩, h3, h4, ?_, ?_⟩, hbl⟩
      · unfold Good
        rw [if_neg hp]
        exact h2
      · split <;> omega
      · split <;> omega
  · have hq : q = -1074 := by omega
    have hb' : mant < 4503599627370496 := by omega
    obtain ⟨t, T, x0, x1, ht, ht1, ht2, hT2, hm, hx0, hx1, hx⟩ := sub_shift (k := 52) h0 hb' (by decide) hsh hM
    have hE' : E = -1075 - (t : Int) := by omega
    rw [hE']
    refine (fshort64d q hq mant t h0 hb' (by omega) ht2 T M x0 x1 hT2 hm hx0 hx1 hx w hT).mono ?_
    rintro e w' ⟨⟨r, p, he, _, h2, h3, h4, h5, h6⟩, hbl⟩
    refine ⟨⟨r.1, _, sf_out he, ⟨r, p, rfl, rfl, ?_⟩, h3, h4, ?_, ?_⟩, hbl⟩
    · unfold Good
      rw [if_neg (fun h => by have := h.1; omega)]
      exact h2
    · split <;> omega
    · split <;> omega

theorem sf32 (mant sh M : Nat) (q E : Int) (h0 : 0 < mant) (h1 : mant < 16777216) (hq0 : -149 ≤ q) (hq1 : q ≤ 104) (hn : 8388608 ≤ mant ∨ q = -149) (hsh : (64 : Int) - (Lib.bitLen mant : Int) = (sh : Int)) (hM : M = mant * 2 ^ sh) (hE : E = q - sh) (w : World) (hT : PTab w.heap.size w) :
    Calls Tryz.prog 64 #[.int .u64 (M : Int), .int .i64 E] w fun e w' => (∃ (u : Nat) (p : Int), e = .returned (.tuple #[.int .u64 (u : Int), .int .i64 p]) ∧ Ans 8388608 (-149) mant q u p ∧ 0 < u ∧ u < 100000000000000000 ∧ -400 ≤ p ∧ p ≤ 400) ∧ Below w.heap.size w w' := by
  by_cases hb : 8388608 ≤ mant
  · have hl : Lib.bitLen mant = 24 := bitLen_is (k := 23) hb h1 (by decide)
    have hs : sh = 40 := by omega
    subst hs
    by_cases hp : mant = 8388608 ∧ -149 < q
    · obtain ⟨rfl, hq⟩ := hp
      have hM' : M = 9223372036854775808 := hM.trans (by decide)
      subst hM'
      have hE' : E = q - 40 := hE
      subst hE'
      refine (fshort32p q (by omega) hq1 w hT).mono ?_
      rintro e w' ⟨⟨r, p, he, h2, h3, h4, h5, h6⟩, hbl⟩
      refine ⟨⟨r.1, _, sf_out he, ⟨r, p, rfl, rfl, ?_⟩, h3, h4, ?_, ?_⟩, hbl⟩
      · unfold Good
        rw [if_pos ⟨rfl, hq⟩]
        exact h2
      · split <;> omega
      · split <;> omega
    · have hM' : M = 2 * mant * 549755813888 := by rw [hM, show (2 : Nat) ^ 40 = 2 * 549755813888 by decide]; ac_rfl
      have hE' : E = q - 40 := hE
      rw [hE']
      refine (fshort32n mant q hb h1 hq0 hq1 (by omega) M hM' w hT).mono ?_
      rintro e w' ⟨⟨r, p, he, _, h2, h3, h4, h5, h6⟩, hbl⟩
      refine ⟨⟨r.1, _, sf_out he, ⟨r, p, rfl, rfl, ?_⟩, h3, h4, ?_, ?_⟩, hbl⟩
      · unfold Good
        rw [if_neg hp]
        exact h2
      · split <;> omega
      · split <;> omega
  · have hq : q = -149 := by omega
    have hb' : mant < 8388608 := by omega
    obtain ⟨t, T, x0, x1, ht, ht1, ht2, hT2, hm, hx0, hx1, hx⟩ := sub_shift (k := 23) h0 hb' (by decide) hsh hM
    have hE' : E = -150 - (t : Int) := by omega
    rw [hE']
    refine (fshort32d q hq mant t h0 hb' (by omega) ht2 T M x0 x1 hT2 hm hx0 hx1 hx w hT).mono ?_
    rintro e w' ⟨⟨r, p, he, _, h2, h3, h4, h5, h6⟩, hbl⟩
    refine ⟨⟨r.1, _, sf_out he, ⟨r, p, rfl, rfl, ?_⟩, h3, h4, ?_, ?_⟩, hbl⟩
    · unfold Good
      rw [if_neg (fun h => by have := h.1; omega)]
      exact h2
    · split <;> omega
    · split <;> omega

/-! The parts of a word. -/
theorem and_i64 (u : Nat) (n : Nat) (h : u < 9223372036854775808) (hn : 2 ^ n - 1 < 9223372036854775808) : bits .and .i64 (u : Int) ((2 ^ n - 1 : Nat) : Int) = ((u % 2 ^ n : Nat) : Int) := by
  have := (bits_nat .i64 63 (by decide) (fun n h0 h1 => by simp [IntKind.wrap, IntKind.bits, IntKind.signed]; omega) u (2 ^ n - 1) h hn).1
  rw [Nat.and_two_pow_sub_one_eq_mod] at this
  exact this
theorem and_u64 (u : Nat) (n : Nat) (h : u < 18446744073709551616) (hn : 2 ^ n - 1 < 18446744073709551616) : bits .and .u64 (u : Int) ((2 ^ n - 1 : Nat) : Int) = ((u % 2 ^ n : Nat) : Int) := by
  have := (bits_nat .u64 64 (by decide) (fun n h0 h1 => by simp [IntKind.wrap, IntKind.bits, IntKind.signed]; omega) u (2 ^ n - 1) h hn).1
  rw [Nat.and_two_pow_sub_one_eq_mod] at this
  exact this
theorem or_u64 (u : Nat) (n : Nat) (h : u < 2 ^ n) (hn : n < 64) : bits .or .u64 (u : Int) ((2 ^ n : Nat) : Int) = ((2 ^ n + u : Nat) : Int) := by
  have hp : 2 ^ n < 18446744073709551616 := Nat.pow_lt_pow_right (a := 2) (by decide) hn
  have := (bits_nat .u64 64 (by decide) (fun n h0 h1 => by simp [IntKind.wrap, IntKind.bits, IntKind.signed]; omega) u (2 ^ n) (by omega) hp).2
  rw [Nat.or_comm] at this
  have h2 := Nat.two_pow_add_eq_or_of_lt h 1
  rw [Nat.mul_one] at h2
  rw [← h2] at this
  exact this
end Go.Proofs.YtkkipddgkfidmaaGreatDoor
