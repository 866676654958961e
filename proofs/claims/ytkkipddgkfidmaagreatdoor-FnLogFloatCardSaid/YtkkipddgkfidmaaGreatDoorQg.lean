/- The plain law of nearness: a decimal that lies in a float's rounding interval compares as it should with the interval's ends. Plain; no conditions beyond each theorem's own. -/
import Derived.Test.YtkkipddgkfidmaaGreatDoorVl
import Derived.Test.YtkkipddgkfidmaaGreatDoorQf
namespace Go.Proofs.YtkkipddgkfidmaaGreatDoor

/-- The two whole numbers whose order tells how V 10^e and m 2^k lie. -/
def sideX (V : Nat) (e k : Int) : Nat := V * 10 ^ e.toNat * 2 ^ (-k).toNat
def sideY (m : Nat) (e k : Int) : Nat := m * 10 ^ (-e).toNat * 2 ^ k.toNat

theorem low_aux {V X X' Y Y' Z Z' W W' K D o c : Nat} (hX' : 0 < X') (hW' : 0 < W') (hY : 0 < Y) (hZ' : 0 < Z') (h1 : V * X * Y = D * X' * Y') (h3 : Z * W' = c * W * Z') (h2 : K * Y * Z + o ≤ c * D * Y' * Z') (hc : 0 < c) : K * X' * W ≤ V * X * W' ∧ (0 < o → K * X' * W < V * X * W') := by
  have e1 : c * (K * X' * W) * (Y * Z') = X' * W' * (K * Y * Z) := by
    rw [show X' * W' * (K * Y * Z) = X' * K * Y * (Z * W') by ac_rfl, h3]
    ac_rfl
  have e2 : c * (V * X * W') * (Y * Z') = X' * W' * (c * D * Y' * Z') := by
    rw [show c * (V * X * W') * (Y * Z') = c * W' * Z' * (V * X * Y) by ac_rfl, h1]
    ac_rfl
  have hYZ : 0 < Y * Z' := Nat.mul_pos hY hZ'
  have hXW : 0 < X' * W' := Nat.mul_pos hX' hW'
  have h4 : X' * W' * (K * Y * Z) + X' * W' * o ≤ X' * W' * (c * D * Y' * Z') := by
    rw [← Nat.mul_add]
    exact Nat.mul_le_mul_left _ h2
  rw [← e1, ← e2] at h4
  refine ⟨?_, fun ho => ?_⟩
  · have h5 : c * (K * X' * W) * (Y * Z') ≤ c * (V * X * W') * (Y * Z') := by omega
    exact Nat.le_of_mul_le_mul_left (Nat.le_of_mul_le_mul_right h5 hYZ) hc
  · have h6 : 0 < X' * W' * o := Nat.mul_pos hXW ho
    have h5 : c * (K * X' * W) * (Y * Z') < c * (V * X * W') * (Y * Z') := by omega
    exact Nat.lt_of_mul_lt_mul_left (Nat.lt_of_mul_lt_mul_right h5)

theorem high_aux {V X X' Y Y' Z Z' W W' K D o c : Nat} (hX' : 0 < X') (hW' : 0 < W') (hY : 0 < Y) (hZ' : 0 < Z') (h1 : V * X * Y = D * X' * Y') (h3 : Z * W' = c * W * Z') (h2 : c * D * Y' * Z' + o ≤ K * Y * Z) (hc : 0 < c) : V * X * W' ≤ K * X' * W ∧ (0 < o → V * X * W' < K * X' * W) := by
  have e1 : c * (K * X' * W) * (Y * Z') = X' * W' * (K * Y * Z) := by
    rw [show X' * W' * (K * Y * Z) = X' * K * Y * (Z * W') by ac_rfl, h3]
    ac_rfl
  have e2 : c * (V * X * W') * (Y * Z') = X' * W' * (c * D * Y' * Z') := by
    rw [show c * (V * X * W') * (Y * Z') = c * W' * Z' * (V * X * Y) by ac_rfl, h1]
    ac_rfl
  have hYZ : 0 < Y * Z' := Nat.mul_pos hY hZ'
  have hXW : 0 < X' * W' := Nat.mul_pos hX' hW'
  have h4 : X' * W' * (c * D * Y' * Z') + X' * W' * o ≤ X' * W' * (K * Y * Z) := by
    rw [← Nat.mul_add]
    exact Nat.mul_le_mul_left _ h2
  rw [← e1, ← e2] at h4
  refine ⟨?_, fun ho => ?_⟩
  · have h5 : c * (V * X * W') * (Y * Z') ≤ c * (K * X' * W) * (Y * Z') := by omega
    exact Nat.le_of_mul_le_mul_left (Nat.le_of_mul_le_mul_right h5 hYZ) hc
  · have h6 : 0 < X' * W' * o := Nat.mul_pos hXW ho
    have h5 : c * (V * X * W') * (Y * Z') < c * (K * X' * W) * (Y * Z') := by omega
    exact Nat.lt_of_mul_lt_mul_left (Nat.lt_of_mul_lt_mul_right h5)

theorem pow_split (q : Int) (j : Nat) : 2 ^ q.toNat * 2 ^ (-(q - j)).toNat = 2 ^ j * 2 ^ (q - j).toNat * 2 ^ (-q).toNat := by
  rw [← Nat.pow_add, ← Nat.pow_add, ← Nat.pow_add]
  congr 1
  omega

/-- The same number: V 10^e and D 10^-p. -/
def Same (V : Nat) (e : Int) (D : Nat) (p : Int) : Prop := V * 10 ^ e.toNat * 10 ^ p.toNat = D * 10 ^ (-e).toNat * 10 ^ (-p).toNat

/-- What FloatNear asks of the two comparisons. -/
def Near (V : Nat) (e : Int) (low : Nat) (lowK : Int) (m : Nat) (k : Int) : Prop :=
  (sideY low e lowK < sideX V e lowK ∨ sideX V e lowK = sideY low e lowK ∧ m % 2 = 0) ∧ (sideX V e (k - 1) < sideY (2 * m + 1) e (k - 1) ∨ sideX V e (k - 1) = sideY (2 * m + 1) e (k - 1) ∧ m % 2 = 0)

theorem near_of_within {q p e : Int} {V D m : Nat} (hw : Within q p m D) (hs : Same V e D p) : Near V e (2 * m - 1) (q - 1) m q := by
  obtain ⟨h1, h2⟩ := hw
  have hp10 : ∀ n, 0 < 10 ^ n := fun n => Nat.pow_pos (by decide)
  have hp2 : ∀ n, 0 < 2 ^ n := fun n => Nat.two_pow_pos n
  have h3 := pow_split (q + 1) 2
  rw [show q + 1 - ((2 : Nat) : Int) = q - 1 by omega] at h3
  have hl := low_aux (o := m % 2) (K := 2 * m - 1) (c := 2 ^ 2) (hp10 (-e).toNat) (hp2 (-(q - 1)).toNat) (hp10 p.toNat) (hp2 (-(q + 1)).toNat) hs h3 (by
    unfold num den at h1
    rw [Nat.mul_assoc, Nat.mul_assoc (2 ^ 2 * D), Nat.sub_mul, Nat.one_mul]
    exact h1) (by decide)
  have hh := high_aux (o := m % 2) (K := 2 * m + 1) (c := 2 ^ 2) (hp10 (-e).toNat) (hp2 (-(q - 1)).toNat) (hp10 p.toNat) (hp2 (-(q + 1)).toNat) hs h3 (by
    unfold num den at h2
    rw [Nat.mul_assoc (2 * m + 1), Nat.mul_assoc (2 ^ 2 * D), Nat.add_mul, Nat.one_mul]
    exact h2) (by decide)
  unfold Near sideX sideY
  obtain ⟨a1, a2⟩ := hl
  obtain ⟨b1, b2⟩ := hh
  rcases Nat.eq_zero_or_pos (m % 2) with h | h
  · omega
  · have := a2 h
    have := b2 h
    omega

theorem near_of_pow {q p e : Int} {V D m : Nat} (hw : WithinPow q p m D) (he : m % 2 = 0) (hs : Same V e D p) : Near V e (4 * m - 1) (q - 2) m q := by
  obtain ⟨h1, h2⟩ := hw
  have hp10 : ∀ n, 0 < 10 ^ n := fun n => Nat.pow_pos (by decide)
  have hp2 : ∀ n, 0 < 2 ^ n := fun n => Nat.two_pow_pos n
  have h3 := pow_split (q + 1) 2
  rw [show q + 1 - ((2 : Nat) : Int) = q - 1 by omega] at h3
  have h4 := pow_split (q + 1) 3
  rw [show q + 1 - ((3 : Nat) : Int) = q - 2 by omega] at h4
  have hl := low_aux (o := 0) (K := 4 * m - 1) (c := 2 ^ 3) (hp10 (-e).toNat) (hp2 (-(q - 2)).toNat) (hp10 p.toNat) (hp2 (-(q + 1)).toNat) hs h4 (by
    unfold num den at h1
    rw [Nat.mul_assoc, Nat.mul_assoc (2 ^ 3 * D)]
    exact h1) (by decide)
  have hh := high_aux (o := 0) (K := 2 * m + 1) (c := 2 ^ 2) (hp10 (-e).toNat) (hp2 (-(q - 1)).toNat) (hp10 p.toNat) (hp2 (-(q + 1)).toNat) hs h3 (by
    unfold num den at h2
    rw [Nat.mul_assoc (2 * m + 1), Nat.mul_assoc (2 ^ 2 * D)]
    exact h2) (by decide)
  unfold Near sideX sideY
  obtain ⟨a1, a2⟩ := hl
  obtain ⟨b1, b2⟩ := hh
  omega
end Go.Proofs.YtkkipddgkfidmaaGreatDoor
