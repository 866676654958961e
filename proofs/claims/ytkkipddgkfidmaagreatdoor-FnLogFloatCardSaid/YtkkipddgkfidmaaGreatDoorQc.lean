/- The plain law of the shortest decimal: what is chosen lies between the two ends of the float's rounding interval. No program stands in this text; no conditions beyond each theorem's own. -/
import Derived.Test.YtkkipddgkfidmaaGreatDoorQb
namespace Go.Proofs.YtkkipddgkfidmaaGreatDoor

/-- The exact scaled value A/Q: its whole part, with a bit for the rest. -/
def ex (A Q : Nat) : Nat := if A % Q = 0 then A / Q else stick (A / Q)
def ceil4 (u odd : Nat) : Nat := (u + odd + 3) / 4
def floor4 (u odd : Nat) : Nat := (u - odd) / 4
def round4 (u : Nat) : Nat := (u + 1 + u / 4 % 2) / 4

theorem mul_le_iff {X n Q r : Nat} (hr : r < Q) : X * Q ≤ n * Q + r ↔ X ≤ n := by
  constructor
  · intro h
    by_cases c : X ≤ n
    · exact c
    · exfalso
      have := Nat.mul_le_mul_right Q (show n + 1 ≤ X by omega)
      rw [Nat.add_mul, Nat.one_mul] at this
      omega
  · intro h
    have := Nat.mul_le_mul_right Q h
    omega

theorem lo_iff {X n Q r odd : Nat} (hr : r < Q) (ho : odd ≤ 1) : n * Q + r + odd ≤ X * Q ↔ n < X ∨ (X = n ∧ r = 0 ∧ odd = 0) := by
  have hlt : n < X → n * Q + Q ≤ X * Q := fun h => by
    have := Nat.mul_le_mul_right Q (show n + 1 ≤ X by omega)
    rwa [Nat.add_mul, Nat.one_mul] at this
  have hgt : X < n → X * Q + Q ≤ n * Q := fun h => by
    have := Nat.mul_le_mul_right Q (show X + 1 ≤ n by omega)
    rwa [Nat.add_mul, Nat.one_mul] at this
  constructor
  · intro h
    rcases Nat.lt_trichotomy X n with c | c | c
    · have := hgt c; omega
    · subst c; right; omega
    · exact .inl c
  · rintro (h | ⟨rfl, h2, h3⟩)
    · have := hlt h; omega
    · omega

theorem hi_iff {X n Q r odd : Nat} (hr : r < Q) (ho : odd ≤ 1) : X * Q + odd ≤ n * Q + r ↔ X < n ∨ (X = n ∧ odd ≤ r) := by
  have hlt : n < X → n * Q + Q ≤ X * Q := fun h => by
    have := Nat.mul_le_mul_right Q (show n + 1 ≤ X by omega)
    rwa [Nat.add_mul, Nat.one_mul] at this
  have hgt : X < n → X * Q + Q ≤ n * Q := fun h => by
    have := Nat.mul_le_mul_right Q (show X + 1 ≤ n by omega)
    rwa [Nat.add_mul, Nat.one_mul] at this
  constructor
  · intro h
    rcases Nat.lt_trichotomy X n with c | c | c
    · exact .inl c
    · subst c; right; omega
    · have := hlt c; omega
  · rintro (h | ⟨rfl, h2⟩)
    · have := hgt h; omega
    · omega

theorem ceil_iff {A Q odd D : Nat} (hQ : 0 < Q) (ho : odd ≤ 1) : ceil4 (ex A Q) odd ≤ D ↔ A + odd ≤ 4 * D * Q := by
  have hdm := Nat.div_add_mod A Q
  have hr := Nat.mod_lt A hQ
  have h := lo_iff (X := 4 * D) (n := A / Q) hr ho
  rw [Nat.mul_comm (A / Q) Q, hdm] at h
  rw [h]
  unfold ceil4 ex stick
  generalize A / Q = n
  generalize A % Q = r
  split <;> omega

theorem floor_iff {B Q odd D : Nat} (hQ : 0 < Q) (hB : 0 < B) (ho : odd ≤ 1) : D ≤ floor4 (ex B Q) odd ↔ 4 * D * Q + odd ≤ B := by
  have hdm := Nat.div_add_mod B Q
  have hr := Nat.mod_lt B hQ
  have h := hi_iff (X := 4 * D) (n := B / Q) hr ho
  rw [Nat.mul_comm (B / Q) Q, hdm] at h
  rw [h]
  have hp : B / Q = 0 → B % Q ≠ 0 := fun h0 h1 => by rw [h0, h1] at hdm; omega
  unfold floor4 ex stick
  generalize B / Q = n at *
  generalize B % Q = r at *
  split <;> omega

theorem round_ok {C Q : Nat} (hQ : 0 < Q) : 4 * round4 (ex C Q) * Q ≤ C + 2 * Q ∧ C ≤ 4 * round4 (ex C Q) * Q + 2 * Q := by
  have hdm := Nat.div_add_mod C Q
  have hr := Nat.mod_lt C hQ
  have k : 4 * round4 (ex C Q) ≤ C / Q + 2 ∧ C / Q ≤ 4 * round4 (ex C Q) + 2 ∧ (C % Q ≠ 0 → C / Q ≤ 4 * round4 (ex C Q) + 1) := by
    unfold round4 ex stick
    generalize C / Q = n
    generalize C % Q = r
    split <;> omega
  obtain ⟨k1, k2, k3⟩ := k
  generalize 4 * round4 (ex C Q) = X at *
  have m1 := Nat.mul_le_mul_right Q k1
  have m2 := Nat.mul_le_mul_right Q k2
  rw [Nat.add_mul] at m1 m2
  rw [Nat.mul_comm (C / Q) Q] at m1 m2
  refine ⟨by omega, ?_⟩
  by_cases c : C % Q = 0
  · omega
  · have m3 := Nat.mul_le_mul_right Q (k3 c)
    rw [Nat.add_mul, Nat.one_mul, Nat.mul_comm (C / Q) Q] at m3
    omega

/-- What the shortest decimal is chosen to be, and whether it counts tens. -/
def shortD (dmin dmax rnd : Nat) : Nat × Bool := if dmin ≤ dmax / 10 * 10 then (dmax / 10, true) else (if dmin < dmax then rnd else dmin, false)
def full (d : Nat × Bool) : Nat := if d.2 then 10 * d.1 else d.1

theorem short_ok {C P Q odd D0 : Nat} (hQ : 0 < Q) (hP : 2 * Q ≤ P) (hC : P < C) (ho : odd ≤ 1) (h1 : C - P + 1 ≤ 4 * D0 * Q) (h2 : 4 * D0 * Q + 1 ≤ C + P) {D : Nat}
    (hD : D = full (shortD (ceil4 (ex (C - P) Q) odd) (floor4 (ex (C + P) Q) odd) (round4 (ex C Q)))) :
    C - P + odd ≤ 4 * D * Q ∧ 4 * D * Q + odd ≤ C + P := by
  have c0 : ∀ d, ceil4 (ex (C - P) Q) odd ≤ d ↔ C - P + odd ≤ 4 * d * Q := fun d => ceil_iff hQ ho
  have f0 : ∀ d, d ≤ floor4 (ex (C + P) Q) odd ↔ 4 * d * Q + odd ≤ C + P := fun d => floor_iff hQ (by omega) ho
  obtain ⟨r1, r2⟩ := round_ok (C := C) hQ
  generalize hmi : ceil4 (ex (C - P) Q) odd = dmin at *
  generalize hma : floor4 (ex (C + P) Q) odd = dmax at *
  generalize hrn : round4 (ex C Q) = rnd at *
  rw [← c0, ← f0]
  have hle : dmin ≤ D0 := (c0 D0).2 (by omega)
  have hge : D0 ≤ dmax := (f0 D0).2 (by omega)
  subst hD
  unfold full shortD
  by_cases c : dmin ≤ dmax / 10 * 10
  · rw [if_pos c]
    simp only [if_true]
    omega
  · rw [if_neg c]
    simp only [Bool.false_eq_true, if_false]
    by_cases c2 : dmin < dmax
    · rw [if_pos c2]
      have e : ∀ a b : Nat, 4 * (a + b) * Q = 4 * a * Q + b * (4 * Q) := fun a b => by rw [Nat.mul_add, Nat.add_mul]; congr 1; ac_rfl
      constructor
      · by_cases c3 : dmin ≤ rnd
        · exact c3
        · exfalso
          -- dmin - 1 would do as well
          have m1 := Nat.mul_le_mul_right Q (show 4 * (rnd + 1) ≤ 4 * dmin by omega)
          have m2 := (f0 (dmin + 1)).1 (by omega)
          have m3 : ¬ C - P + odd ≤ 4 * (dmin - 1) * Q := fun h => by have := (c0 _).2 h; omega
          have m4 := e (dmin - 1) 1
          rw [show dmin - 1 + 1 = dmin by omega] at m4
          rw [e] at m1 m2
          omega
      · by_cases c3 : rnd ≤ dmax
        · exact c3
        · exfalso
          have m1 := Nat.mul_le_mul_right Q (show 4 * (dmax + 1) ≤ 4 * rnd by omega)
          have m2 := (c0 (dmax - 1)).1 (by omega)
          have m3 : ¬ 4 * (dmax + 1) * Q + odd ≤ C + P := fun h => by have := (f0 _).2 h; omega
          have m4 := e (dmax - 1) 1
          rw [show dmax - 1 + 1 = dmax by omega] at m4
          rw [e] at m1 m3
          omega
    · rw [if_neg c2]
      omega

/-- A whole number strictly between the ends. -/
theorem between {m P Q : Nat} (hQ : 0 < Q) (hm : 0 < m) (hP : 2 * Q ≤ P) : ∃ D0, 2 * m * P - P + 1 ≤ 4 * D0 * Q ∧ 4 * D0 * Q + 1 ≤ 2 * m * P + P := by
  have hmP : P ≤ m * P := Nat.le_mul_of_pos_left P hm
  by_cases c : P = 2 * Q
  · subst c
    have e1 : 4 * m * Q = 4 * (m * Q) := Nat.mul_assoc _ _ _
    have e2 : 2 * m * (2 * Q) = 4 * (m * Q) := by
      rw [show 4 * (m * Q) = 2 * 2 * (m * Q) by rfl]
      ac_rfl
    have e3 : m * (2 * Q) = 2 * (m * Q) := by ac_rfl
    have hmQ : Q ≤ m * Q := Nat.le_mul_of_pos_left Q hm
    refine ⟨m, ?_, ?_⟩
    · rw [e1, e2]
      omega
    · rw [e1, e2]
      omega
  · have h4 : 0 < 4 * Q := by omega
    have e2 : 2 * m * P = 2 * (m * P) := Nat.mul_assoc _ _ _
    generalize 2 * m * P = V at *
    have hd := Nat.div_add_mod (V - P) (4 * Q)
    have hr := Nat.mod_lt (V - P) h4
    have e3 : 4 * ((V - P) / (4 * Q) + 1) * Q = 4 * Q * ((V - P) / (4 * Q)) + 4 * Q := by
      rw [Nat.mul_add, Nat.mul_one, Nat.add_mul]
      congr 1
      ac_rfl
    refine ⟨(V - P) / (4 * Q) + 1, ?_, ?_⟩
    · rw [e3]
      omega
    · rw [e3]
      omega
end Go.Proofs.YtkkipddgkfidmaaGreatDoor
