/- What shortFloat's answer says, at a float that is no power of two (or at one whose lower neighbour is as far as its upper one): the chosen decimal lies in the rounding interval. Plain; no conditions beyond each theorem's own. -/
import Derived.Test.YtkkipddgkfidmaaGreatDoorQd
namespace Go.Proofs.YtkkipddgkfidmaaGreatDoor

theorem us_at {q p : Int} {b d K t s : Nat} (hrow : rowOk q b d = true) (hp : l10 q = -p) (hK0 : 0 < K) (hK : K ≤ 18014398509481984) (ht : 10 ≤ t) (hx : K * 2 ^ t < 18446744073709551616) (hs : (t : Int) - q - l2 p - 2 = s) :
    us (K * 2 ^ t) (entry p).1 (entry p).2 (2 ^ s) = if K * num q p % den q p = 0 then K * num q p / den q p else stick (K * num q p / den q p) := by
  unfold rowOk at hrow
  have hpp : -(l10 q) = p := by omega
  simp only [hpp, Bool.and_eq_true, decide_eq_true_eq] at hrow
  obtain ⟨⟨⟨⟨⟨⟨⟨⟨h1, h2⟩, _⟩, _⟩, hg1⟩, hg2⟩, hg⟩, _⟩, _⟩ := hrow
  generalize (126 - q - l2 p).toNat = g at *
  have hgt : g + t = s + 128 := by omega
  refine us_row (U := 2 ^ t) (T := 2 ^ s) h1 h2 hK0 hK rfl hx (Nat.two_pow_pos s) ?_ ?_
  · rw [← Nat.pow_add, hgt, Nat.pow_add]
  · rw [← Nat.pow_add, show (36893488147419103232 : Nat) = 2 ^ 65 by rfl, ← Nat.pow_add]
    exact Nat.pow_le_pow_right (by decide) (by omega)

/-- The interval of a float mant 2^q (its ends as multiples of P/(4Q)), and a whole number D between them: strictly, where mant is odd. -/
def Within (q p : Int) (mant D : Nat) : Prop := 2 * mant * num q p - num q p + mant % 2 ≤ 4 * D * den q p ∧ 4 * D * den q p + mant % 2 ≤ 2 * mant * num q p + num q p

theorem row_facts {q p : Int} {b d : Nat} (hrow : rowOk q b d = true) (hp : l10 q = -p) : 0 < den q p ∧ 2 * den q p ≤ num q p ∧ num q p < 20 * den q p ∧ 0 ≤ 348 + p ∧ 348 + p < 696 := by
  unfold rowOk fits at hrow
  have hpp : -(l10 q) = p := by omega
  simp only [hpp, Bool.and_eq_true, decide_eq_true_eq] at hrow
  obtain ⟨⟨⟨⟨⟨⟨⟨⟨⟨_, h0⟩, h2⟩, h3⟩, h4⟩, hg1⟩, hg2⟩, hg⟩, h5⟩, h6⟩ := hrow
  exact ⟨h0, h3, h4, h5, h6⟩

theorem chosen {q p : Int} {b d mant t s : Nat} (hrow : rowOk q b d = true) (hp : l10 q = -p) (hm0 : 0 < mant) (hm : mant < 9007199254740992) (ht : 10 ≤ t) (hx : (2 * mant + 1) * 2 ^ t < 18446744073709551616) (hs : (t : Int) - q - l2 p - 2 = s) :
    let r := shortD (ceil4 (us ((2 * mant - 1) * 2 ^ t) (entry p).1 (entry p).2 (2 ^ s)) (mant % 2)) (floor4 (us ((2 * mant + 1) * 2 ^ t) (entry p).1 (entry p).2 (2 ^ s)) (mant % 2)) (round4 (us (2 * mant * 2 ^ t) (entry p).1 (entry p).2 (2 ^ s)))
    Within q p mant (full r) ∧ 0 < r.1 ∧ r.1 < 100000000000000000 ∧ mant % 2 ≤ us ((2 * mant + 1) * 2 ^ t) (entry p).1 (entry p).2 (2 ^ s) := by
  intro r
  obtain ⟨f0, f1, f2, _, _⟩ := row_facts hrow hp
  have l1 : (2 * mant - 1) * 2 ^ t ≤ (2 * mant + 1) * 2 ^ t := Nat.mul_le_mul_right _ (by omega)
  have l2' : 2 * mant * 2 ^ t ≤ (2 * mant + 1) * 2 ^ t := Nat.mul_le_mul_right _ (by omega)
  have u0 := us_at hrow hp (K := 2 * mant - 1) (by omega) (by omega) ht (by omega) hs
  have u1 := us_at hrow hp (K := 2 * mant + 1) (by omega) (by omega) ht hx hs
  have u2 := us_at hrow hp (K := 2 * mant) (by omega) (by omega) ht (by omega) hs
  have hr : r = shortD (ceil4 (ex (2 * mant * num q p - num q p) (den q p)) (mant % 2)) (floor4 (ex (2 * mant * num q p + num q p) (den q p)) (mant % 2)) (round4 (ex (2 * mant * num q p) (den q p))) := by
    show shortD _ _ _ = _
    rw [u0, u1, u2]
    unfold ex
    rw [Nat.sub_mul, Nat.add_mul, Nat.one_mul]
  have hu1 : us ((2 * mant + 1) * 2 ^ t) (entry p).1 (entry p).2 (2 ^ s) = ex (2 * mant * num q p + num q p) (den q p) := by
    rw [u1]
    unfold ex
    rw [Nat.add_mul, Nat.one_mul]
  clear_value r
  obtain ⟨D0, k1, k2⟩ := between f0 hm0 f1
  have hC : num q p < 2 * mant * num q p := by
    have h1 : 0 < num q p := by omega
    have : 2 * num q p ≤ 2 * mant * num q p := Nat.mul_le_mul_right _ (by omega)
    omega
  have hso := short_ok f0 f1 hC (show mant % 2 ≤ 1 by omega) k1 k2 (D := full r) (by rw [hr])
  have hD0 : 0 < full r := by
    rcases Nat.eq_zero_or_pos (full r) with h | h
    · have := hso.1
      rw [h] at this
      omega
    · exact h
  have hDs : full r < 100000000000000000 := by
    have h1 := hso.2
    have h2 : 2 * mant * num q p + num q p ≤ (2 * 9007199254740991 + 1) * num q p := by
      rw [Nat.add_mul, Nat.one_mul]
      exact Nat.add_le_add_right (Nat.mul_le_mul_right _ (by omega)) _
    have h3 : (2 * 9007199254740991 + 1) * num q p ≤ (2 * 9007199254740991 + 1) * (20 * den q p) := Nat.mul_le_mul_left _ (Nat.le_of_lt f2)
    have h4 : 4 * full r * den q p ≤ (4 * 99999999999999999) * den q p := by
      rw [← Nat.mul_assoc] at h3
      generalize full r = D at *
      have e : 4 * D * den q p = 4 * (D * den q p) := Nat.mul_assoc _ _ _
      omega
    have := Nat.le_of_mul_le_mul_right h4 f0
    omega
  refine ⟨hso, ?_, ?_, ?_⟩
  · unfold full at hD0
    split at hD0 <;> omega
  · unfold full at hDs
    split at hDs <;> omega
  · rw [hu1]
    unfold ex stick
    have : 2 ≤ (2 * mant * num q p + num q p) / den q p := (Nat.le_div_iff_mul_le f0).2 (by omega)
    split <;> omega

theorem row_in {l : List (Nat × Nat)} {q0 q : Int} (h : rowsOk l q0 = true) (n : Nat) (hn : l.length = n) (h0 : q0 ≤ q) (h1 : q < q0 + n) : ∃ b d, rowOk q b d = true := by
  have := rowsOk_at l q0 h (q - q0).toNat (by omega)
  rw [show q0 + ((q - q0).toNat : Int) = q by omega] at this
  exact ⟨_, _, this⟩
theorem row_of (q : Int) (h0 : -1074 ≤ q) (h1 : q ≤ 971) : ∃ b d, rowOk q b d = true := by
  by_cases c0 : q < -818
  · exact row_in ok0 256 (by kernel_rfl) (by omega) (by omega)
  by_cases c1 : q < -562
  · exact row_in ok1 256 (by kernel_rfl) (by omega) (by omega)
  by_cases c2 : q < -306
  · exact row_in ok2 256 (by kernel_rfl) (by omega) (by omega)
  by_cases c3 : q < -50
  · exact row_in ok3 256 (by kernel_rfl) (by omega) (by omega)
  by_cases c4 : q < 206
  · exact row_in ok4 256 (by kernel_rfl) (by omega) (by omega)
  by_cases c5 : q < 462
  · exact row_in ok5 256 (by kernel_rfl) (by omega) (by omega)
  by_cases c6 : q < 718
  · exact row_in ok6 256 (by kernel_rfl) (by omega) (by omega)
  by_cases c7 : q < 972
  · exact row_in ok7 254 (by kernel_rfl) (by omega) (by omega)
  omega
theorem sk_in {mb t : Nat} {q0 q : Int} {n : Nat} (h : skAll mb t q0 n = true) (h0 : q0 ≤ q) (h1 : q < q0 + n) : skOk mb t q = true := by
  have := List.all_eq_true.1 h (q - q0).toNat (List.mem_range.2 (by omega))
  rw [show q0 + ((q - q0).toNat : Int) = q by omega] at this
  exact this
theorem sk_of (q : Int) (h0 : -1073 ≤ q) (h1 : q ≤ 971) : skOk 52 10 q = true := by
  by_cases c0 : q < -817
  · exact sk_in sk64_0 (by omega) (by omega)
  by_cases c1 : q < -561
  · exact sk_in sk64_1 (by omega) (by omega)
  by_cases c2 : q < -305
  · exact sk_in sk64_2 (by omega) (by omega)
  by_cases c3 : q < -49
  · exact sk_in sk64_3 (by omega) (by omega)
  by_cases c4 : q < 207
  · exact sk_in sk64_4 (by omega) (by omega)
  by_cases c5 : q < 463
  · exact sk_in sk64_5 (by omega) (by omega)
  by_cases c6 : q < 719
  · exact sk_in sk64_6 (by omega) (by omega)
  by_cases c7 : q < 972
  · exact sk_in sk64_7 (by omega) (by omega)
  omega
end Go.Proofs.YtkkipddgkfidmaaGreatDoor
