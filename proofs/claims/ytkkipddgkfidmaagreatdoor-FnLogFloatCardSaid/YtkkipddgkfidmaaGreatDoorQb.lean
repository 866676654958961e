/- The plain law of unrounded scaling: where the certificate holds, the scaled product is exact to its last bit. No program stands in this text; no conditions beyond each theorem's own. -/
import Derived.Test.YtkkipddgkfidmaaGreatDoorQa
namespace Go.Proofs.YtkkipddgkfidmaaGreatDoor

/-- A whole number with a bit that something is left over. -/
def stick (n : Nat) : Nat := 2 * (n / 2) + 1

/-- The scaled product: x times hi:lo (hi 2^64 - lo), its places down to 2^(128+s) cut, with a bit for the rest. T is 2^s. -/
def us (x hi lo T : Nat) : Nat :=
  let H := x * hi / 18446744073709551616
  let M := x * hi % 18446744073709551616
  if H % T ≠ 0 then stick (H / T)
  else
    let m2 := x * lo / 18446744073709551616
    let H' := if M < m2 then H - 1 else H
    if (M + 18446744073709551616 - m2) % 18446744073709551616 > 1 then stick (H' / T) else H' / T

theorem div_of {H n T k : Nat} (h : H = n * T + k) (hk : k < T) : H / T = n ∧ H % T = k := by
  have hT : 0 < T := by omega
  subst h
  constructor
  · rw [Nat.mul_comm n T, Nat.mul_add_div hT, Nat.div_eq_of_lt hk, Nat.add_zero]
  · rw [Nat.mul_comm n T, Nat.mul_add_mod, Nat.mod_eq_of_lt hk]

theorem aux2 {XH N Z XL m2 l2 y : Nat} (h : XH * 18446744073709551616 = N * 340282366920938463463374607431768211456 + Z + XL) (hm : 18446744073709551616 * m2 + l2 = XL) (hy : Z + l2 = 18446744073709551616 * y) : XH = (N * 18446744073709551616 + (y + m2)) := by
  omega
theorem aux3 {XH H M V : Nat} (hH : 18446744073709551616 * H + M = XH) (h : XH = V) : H * 18446744073709551616 + M = V := by
  omega

set_option maxRecDepth 8000 in
theorem us_exact {x hi lo T n Z : Nat} (hx : x < 18446744073709551616) (hlo : lo < 18446744073709551616) (hT : 0 < T)
    (h : x * hi * 18446744073709551616 = n * T * 340282366920938463463374607431768211456 + Z + x * lo) :
    (Z < 18446744073709551616 → us x hi lo T = n) ∧ (36893488147419103232 ≤ Z → Z + 18446744073709551616 ≤ T * 340282366920938463463374607431768211456 → us x hi lo T = stick n) := by
  have hm := Nat.div_add_mod (x * lo) 18446744073709551616
  have hl := Nat.mod_lt (x * lo) (show 0 < 18446744073709551616 by decide)
  have hH := Nat.div_add_mod (x * hi) 18446744073709551616
  have hM := Nat.mod_lt (x * hi) (show 0 < 18446744073709551616 by decide)
  have hxl : x * lo ≤ 18446744073709551615 * 18446744073709551615 := Nat.mul_le_mul (by omega) (by omega)
  unfold us
  generalize x * lo / 18446744073709551616 = m2 at *
  generalize x * lo % 18446744073709551616 = l2 at *
  generalize x * hi / 18446744073709551616 = H at *
  generalize x * hi % 18446744073709551616 = M at *
  generalize x * lo = XL at *
  generalize x * hi = XH at *
  generalize hN : n * T = N at *
  obtain ⟨y, hy⟩ : ∃ y, Z + l2 = 18446744073709551616 * y := ⟨XH - N * 18446744073709551616 - m2, by omega⟩
  have hm2 : m2 ≤ 18446744073709551614 := by omega
  have hR := aux3 hH (aux2 h hm hy)
  constructor
  · intro hZ
    have hy1 : y ≤ 1 := by omega
    have e1 : H = N := by omega
    have e2 : M = y + m2 := by omega
    have e3 := div_of (H := H) (n := n) (T := T) (k := 0) (by omega) hT
    simp only [e3.2, ne_eq, not_true_eq_false, if_false]
    rw [if_neg (by omega), if_neg (by omega), e3.1]
  · intro hZ1 hZ2
    have hy1 : 2 ≤ y := by omega
    have hy2 : y < T * 18446744073709551616 := by omega
    by_cases c1 : y + m2 < 18446744073709551616
    · have e1 : H = N := by omega
      have e2 : M = y + m2 := by omega
      have e3 := div_of (H := H) (n := n) (T := T) (k := 0) (by omega) hT
      simp only [e3.2, ne_eq, not_true_eq_false, if_false]
      rw [if_pos (by omega), if_neg (by omega), e3.1]
    · by_cases c2 : y + m2 < T * 18446744073709551616
      · have e3 := div_of (H := H) (n := n) (T := T) (k := H - N) (by omega) (by omega)
        simp only []
        rw [if_pos (by omega), e3.1]
      · have e1 : H = N + T := by omega
        have e3 := div_of (H := H) (n := n + 1) (T := T) (k := 0) (by rw [Nat.add_mul, Nat.one_mul]; omega) hT
        have e4 := div_of (H := H - 1) (n := n) (T := T) (k := T - 1) (by omega) (by omega)
        simp only [e3.2, ne_eq, not_true_eq_false, if_false]
        rw [if_pos (by omega), if_pos (by omega), e4.1]

/-- What ties a table's entry to a fraction P/Q: pm = hi 2^64 - lo is the least whole number that is at least P/Q times 2^g = G. -/
def fits (hi lo P Q G : Nat) : Bool := decide (lo < 18446744073709551616) && decide (hi < 18446744073709551616) && decide (P * G + lo * Q ≤ hi * 18446744073709551616 * Q) && decide (hi * 18446744073709551616 * Q < P * G + Q + lo * Q) && decide (0 < Q)

set_option maxRecDepth 8000 in
theorem us_row {hi lo P Q G K U J T x N a b c d : Nat} (hf : fits hi lo P Q G = true) (hc : far N J P Q a b c d = true) (hK0 : 0 < K) (hK : K ≤ N) (hxK : x = K * U) (hx : x < 18446744073709551616) (hT : 0 < T)
    (hGU : G * U = T * 340282366920938463463374607431768211456) (hJ : J * 36893488147419103232 ≤ G * U) :
    us x hi lo T = if K * P % Q = 0 then K * P / Q else stick (K * P / Q) := by
  unfold fits at hf
  simp only [Bool.and_eq_true, decide_eq_true_eq] at hf
  obtain ⟨⟨⟨⟨hlo, hhi⟩, f1⟩, f2⟩, hQ⟩ := hf
  obtain ⟨s1, s2⟩ := far_sound hc hK hK0
  have hdm := Nat.div_add_mod (K * P) Q
  have hr := Nat.mod_lt (K * P) hQ
  generalize hn : K * P / Q = n at *
  generalize hrr : K * P % Q = r at *
  have hx0 : K * U = x := hxK.symm
  -- x pm Q lies between (n Q + r) G U and that and x Q
  have g1 : x * (P * G) + x * (lo * Q) ≤ x * (hi * 18446744073709551616 * Q) := by rw [← Nat.mul_add]; exact Nat.mul_le_mul_left _ f1
  have g2 : x * (hi * 18446744073709551616 * Q) ≤ x * (P * G) + x * Q + x * (lo * Q) := by rw [← Nat.mul_add, ← Nat.mul_add]; exact Nat.mul_le_mul_left _ (Nat.le_of_lt f2)
  have e1 : x * (P * G) = n * (G * U) * Q + r * (G * U) := by
    have : x * (P * G) = (K * P) * (G * U) := by
      rw [hxK]
      ac_rfl
    rw [this, ← hdm, Nat.add_mul]
    congr 1
    ac_rfl
  have e2 : x * (lo * Q) = x * lo * Q := by ac_rfl
  have e3 : x * (hi * 18446744073709551616 * Q) = x * hi * 18446744073709551616 * Q := by ac_rfl
  rw [e1, e2, e3] at g1 g2
  -- the rest Z
  have hge : n * (G * U) + x * lo ≤ x * hi * 18446744073709551616 := by
    apply Nat.le_of_mul_le_mul_right _ hQ
    rw [Nat.add_mul]
    omega
  obtain ⟨Z, hZ⟩ : ∃ Z, x * hi * 18446744073709551616 = n * (G * U) + x * lo + Z := ⟨_, (Nat.add_sub_cancel' hge).symm⟩
  rw [hZ, Nat.add_mul, Nat.add_mul] at g1 g2
  have z1 : r * (G * U) ≤ Z * Q := by omega
  have z2 : Z * Q ≤ r * (G * U) + x * Q := by omega
  have hu := us_exact (x := x) (hi := hi) (lo := lo) (T := T) (n := n) (Z := Z) hx hlo hT (by rw [Nat.mul_assoc n T, ← hGU, hZ]; omega)
  by_cases h0 : r = 0
  · rw [if_pos h0]
    refine hu.1 ?_
    rw [h0, Nat.zero_mul, Nat.zero_add] at z2
    exact Nat.lt_of_le_of_lt (Nat.le_of_mul_le_mul_right z2 hQ) hx
  · rw [if_neg h0]
    have q1 : Q ≤ r * J := by rcases s1 with h | h; exact absurd h h0; exact h
    refine hu.2 ?_ ?_
    · apply Nat.le_of_mul_le_mul_right _ hQ
      have a1 : r * (J * 36893488147419103232) ≤ r * (G * U) := Nat.mul_le_mul_left _ hJ
      have a2 : r * (J * 36893488147419103232) = r * J * 36893488147419103232 := by ac_rfl
      omega
    · rw [← hGU]
      apply Nat.le_of_mul_le_mul_right _ hQ
      have a1 : (Q - r) * (J * 36893488147419103232) ≤ (Q - r) * (G * U) := Nat.mul_le_mul_left _ hJ
      have a2 : (Q - r) * (J * 36893488147419103232) = (Q - r) * J * 36893488147419103232 := by ac_rfl
      have a3 : (Q - r) * (G * U) = G * U * Q - r * (G * U) := by rw [Nat.sub_mul, Nat.mul_comm Q]
      have a4 : x * Q ≤ 18446744073709551616 * Q := Nat.mul_le_mul_right _ (Nat.le_of_lt hx)
      have a5 : r * (G * U) ≤ Q * (G * U) := Nat.mul_le_mul_right _ (Nat.le_of_lt hr)
      rw [Nat.mul_comm Q (G * U)] at a5
      rw [Nat.add_mul]
      omega
end Go.Proofs.YtkkipddgkfidmaaGreatDoor
