/- The plain law of fractions that lie far from whole numbers: neighbours of Farey bound the distance of every multiple. No program stands in this text; no conditions beyond each theorem's own. -/
namespace Go.Proofs.YtkkipddgkfidmaaGreatDoor

/-- No fraction n/K with a small K lies strictly between two neighbours. -/
theorem farey {a b c d N K n : Int} (h1 : b * c = a * d + 1) (hN : N < b + d) (hb : 0 < b) (hd : 0 < d) (hK : K ≤ N) : n * b ≤ K * a ∨ K * c ≤ n * d := by
  by_cases h : n * b ≤ K * a
  · exact .inl h
  · right
    by_cases h' : K * c ≤ n * d
    · exact h'
    · exfalso
      have u : 1 ≤ n * b - K * a := by omega
      have v : 1 ≤ K * c - n * d := by omega
      have e : b * (K * c - n * d) + d * (n * b - K * a) = K := by
        have : b * (K * c - n * d) + d * (n * b - K * a) = K * (b * c - a * d) := by
          simp only [Int.mul_sub]
          rw [show b * (K * c) = K * (b * c) by rw [← Int.mul_assoc, Int.mul_comm b K, Int.mul_assoc], show d * (K * a) = K * (a * d) by rw [← Int.mul_assoc, Int.mul_comm d K, Int.mul_assoc, Int.mul_comm d a], show d * (n * b) = b * (n * d) by rw [← Int.mul_assoc, Int.mul_comm d n, Int.mul_comm (n * d) b]]
          omega
        rw [this, h1]
        rw [show a * d + 1 - a * d = 1 by omega, Int.mul_one]
      have h2 : b ≤ b * (K * c - n * d) := by
        have := Int.mul_le_mul_of_nonneg_left v (Int.le_of_lt hb)
        rwa [Int.mul_one] at this
      have h3 : d ≤ d * (n * b - K * a) := by
        have := Int.mul_le_mul_of_nonneg_left u (Int.le_of_lt hd)
        rwa [Int.mul_one] at this
      omega

/-- The lower neighbour: what K P is above n Q. -/
theorem below_far {a b c d P Q K n J : Int} (h1 : b * c = a * d + 1) (hb : 0 < b) (hbJ : b ≤ J) (hJ : 0 < J) (hQ : 0 < Q) (hK : 0 < K) (hlo : a * Q = P * b ∨ (a * Q < P * b ∧ Q ≤ (P * b - a * Q) * J)) (hle : n * b ≤ K * a) (h : n * Q < K * P) : Q ≤ (K * P - n * Q) * J := by
  have key : b * (K * P - n * Q) = K * (P * b - a * Q) + Q * (K * a - n * b) := by
    simp only [Int.mul_sub]
    rw [show b * (K * P) = K * (P * b) by rw [← Int.mul_assoc, Int.mul_comm b K, Int.mul_assoc, Int.mul_comm b P], show b * (n * Q) = Q * (n * b) by rw [Int.mul_comm b, Int.mul_assoc, ← Int.mul_assoc Q, Int.mul_comm Q n, Int.mul_assoc, Int.mul_comm Q b], show K * (a * Q) = Q * (K * a) by rw [← Int.mul_assoc, Int.mul_comm (K * a)]]
    omega
  have hdiff : 0 < K * P - n * Q := by omega
  by_cases hw : K * a - n * b = 0
  · -- n b = K a: b divides K
    have hdiv : b ∣ K := by
      have : b ∣ K * a := ⟨n, by rw [Int.mul_comm b n]; omega⟩
      have h2 : K = b * (K * c) - (K * a) * d := by
        rw [show b * (K * c) = K * (b * c) by rw [← Int.mul_assoc, Int.mul_comm b K, Int.mul_assoc], h1, Int.mul_add, Int.mul_one, Int.mul_assoc]
        omega
      obtain ⟨g, hg⟩ := this
      refine ⟨K * c - g * d, ?_⟩
      rw [Int.mul_sub, ← Int.mul_assoc b g d, ← hg]
      exact h2
    obtain ⟨g, rfl⟩ := hdiv
    have hg : 0 < g := by
      rcases Int.lt_trichotomy g 0 with hg | hg | hg
      · exact absurd (Int.mul_neg_of_pos_of_neg hb hg) (by omega)
      · subst hg; simp at hK
      · exact hg
    rw [hw, Int.mul_zero, Int.add_zero] at key
    have e2 : b * g * P - n * Q = g * (P * b - a * Q) := Int.eq_of_mul_eq_mul_left (Int.ne_of_gt hb) (key.trans (Int.mul_assoc b g _))
    rw [e2] at hdiff ⊢
    rcases hlo with h0 | ⟨h0, h3⟩
    · rw [h0, Int.sub_self, Int.mul_zero] at hdiff
      omega
    · have h4 : P * b - a * Q ≤ g * (P * b - a * Q) := by
        have := Int.mul_le_mul_of_nonneg_right (show 1 ≤ g by omega) (show 0 ≤ P * b - a * Q by omega)
        rwa [Int.one_mul] at this
      exact Int.le_trans h3 (Int.mul_le_mul_of_nonneg_right h4 (Int.le_of_lt hJ))
  · have hw1 : 1 ≤ K * a - n * b := by omega
    have h2 : Q ≤ b * (K * P - n * Q) := by
      rw [key]
      have h3 : Q ≤ Q * (K * a - n * b) := by
        have := Int.mul_le_mul_of_nonneg_left hw1 (Int.le_of_lt hQ)
        rwa [Int.mul_one] at this
      have h4 : 0 ≤ K * (P * b - a * Q) := Int.mul_nonneg (Int.le_of_lt hK) (by rcases hlo with h | ⟨h, _⟩ <;> omega)
      omega
    have h3 : b * (K * P - n * Q) ≤ J * (K * P - n * Q) := Int.mul_le_mul_of_nonneg_right hbJ (Int.le_of_lt hdiff)
    rw [Int.mul_comm _ J]
    omega

/-- The upper neighbour: what K P is below n Q. -/
theorem above_far {a b c d P Q K n J : Int} (h1 : b * c = a * d + 1) (hd : 0 < d) (hdJ : d ≤ J) (hJ : 0 < J) (hQ : 0 < Q) (hK : 0 < K) (hhi : P * d < c * Q ∧ Q ≤ (c * Q - P * d) * J) (hle : K * c ≤ n * d) (h : K * P < n * Q) : Q ≤ (n * Q - K * P) * J := by
  have key : d * (n * Q - K * P) = K * (c * Q - P * d) + Q * (n * d - K * c) := by
    simp only [Int.mul_sub]
    rw [show d * (K * P) = K * (P * d) by rw [← Int.mul_assoc, Int.mul_comm d K, Int.mul_assoc, Int.mul_comm d P], show d * (n * Q) = Q * (n * d) by rw [Int.mul_comm d, Int.mul_assoc, ← Int.mul_assoc Q, Int.mul_comm Q n, Int.mul_assoc, Int.mul_comm Q d], show K * (c * Q) = Q * (K * c) by rw [← Int.mul_assoc, Int.mul_comm (K * c)]]
    omega
  have hdiff : 0 < n * Q - K * P := by omega
  by_cases hw : n * d - K * c = 0
  · have hdiv : d ∣ K := by
      have : d ∣ K * c := ⟨n, by rw [Int.mul_comm d n]; omega⟩
      have h2 : K = b * (K * c) - (K * a) * d := by
        rw [show b * (K * c) = K * (b * c) by rw [← Int.mul_assoc, Int.mul_comm b K, Int.mul_assoc], h1, Int.mul_add, Int.mul_one, Int.mul_assoc]
        omega
      obtain ⟨g, hg⟩ := this
      refine ⟨b * g - K * a, ?_⟩
      rw [Int.mul_sub, Int.mul_comm d (K * a), ← Int.mul_assoc d b g, Int.mul_comm d b, Int.mul_assoc b d g, ← hg]
      exact h2
    obtain ⟨g, rfl⟩ := hdiv
    have hg : 0 < g := by
      rcases Int.lt_trichotomy g 0 with hg | hg | hg
      · exact absurd (Int.mul_neg_of_pos_of_neg hd hg) (by omega)
      · subst hg; simp at hK
      · exact hg
    rw [hw, Int.mul_zero, Int.add_zero] at key
    have e2 : n * Q - d * g * P = g * (c * Q - P * d) := Int.eq_of_mul_eq_mul_left (Int.ne_of_gt hd) (key.trans (Int.mul_assoc d g _))
    rw [e2] at hdiff ⊢
    have h4 : c * Q - P * d ≤ g * (c * Q - P * d) := by
      have := Int.mul_le_mul_of_nonneg_right (show 1 ≤ g by omega) (show 0 ≤ c * Q - P * d by omega)
      rwa [Int.one_mul] at this
    exact Int.le_trans hhi.2 (Int.mul_le_mul_of_nonneg_right h4 (Int.le_of_lt hJ))
  · have hw1 : 1 ≤ n * d - K * c := by omega
    have h2 : Q ≤ d * (n * Q - K * P) := by
      rw [key]
      have h3 : Q ≤ Q * (n * d - K * c) := by
        have := Int.mul_le_mul_of_nonneg_left hw1 (Int.le_of_lt hQ)
        rwa [Int.mul_one] at this
      have h4 : 0 ≤ K * (c * Q - P * d) := Int.mul_nonneg (Int.le_of_lt hK) (by omega)
      omega
    have h3 : d * (n * Q - K * P) ≤ J * (n * Q - K * P) := Int.mul_le_mul_of_nonneg_right hdJ (Int.le_of_lt hdiff)
    rw [Int.mul_comm _ J]
    omega

/-- The certificate of a fraction P/Q: neighbours a/b and c/d for denominators up to N, and how far they lie. -/
def far (N J P Q a b c d : Nat) : Bool :=
  decide (b * c = a * d + 1) && decide (N < b + d) && decide (0 < b) && decide (0 < d) && decide (b ≤ J) && decide (d ≤ J) && decide (0 < Q) &&
  (decide (a * Q = P * b) || (decide (a * Q < P * b) && decide (Q + a * Q * J ≤ P * b * J))) && decide (P * d < c * Q) && decide (Q + P * d * J ≤ c * Q * J)

theorem far_sound {N J P Q a b c d K : Nat} (h : far N J P Q a b c d = true) (hK : K ≤ N) (hK0 : 0 < K) :
    (K * P % Q = 0 ∨ Q ≤ K * P % Q * J) ∧ Q ≤ (Q - K * P % Q) * J := by
  unfold far at h
  simp only [Bool.and_eq_true, Bool.or_eq_true, decide_eq_true_eq] at h
  obtain ⟨⟨⟨⟨⟨⟨⟨⟨⟨h1, hN⟩, hb⟩, hd⟩, hbJ⟩, hdJ⟩, hQ⟩, hlo⟩, hc⟩, hhi⟩ := h
  have hdm := Nat.div_add_mod (K * P) Q
  have hr := Nat.mod_lt (K * P) hQ
  generalize hn : K * P / Q = n at hdm
  generalize hrr : K * P % Q = r at hdm hr ⊢
  have hJ : 0 < J := Nat.lt_of_lt_of_le hb hbJ
  have i1 : (b : Int) * c = a * d + 1 := by exact_mod_cast h1
  have iN : (N : Int) < b + d := by exact_mod_cast hN
  have ib : (0 : Int) < b := by exact_mod_cast hb
  have id' : (0 : Int) < d := by exact_mod_cast hd
  have iK : (K : Int) ≤ N := by exact_mod_cast hK
  have iK0 : (0 : Int) < K := by exact_mod_cast hK0
  have iJ : (0 : Int) < J := by exact_mod_cast hJ
  have iQ : (0 : Int) < Q := by exact_mod_cast hQ
  have ibJ : (b : Int) ≤ J := by exact_mod_cast hbJ
  have idJ : (d : Int) ≤ J := by exact_mod_cast hdJ
  have ilo : (a : Int) * Q = P * b ∨ ((a : Int) * Q < P * b ∧ (Q : Int) ≤ (P * b - a * Q) * J) := by
    rcases hlo with h | ⟨h, h'⟩
    · exact .inl (by exact_mod_cast h)
    · refine .inr ⟨by exact_mod_cast h, ?_⟩
      rw [Int.sub_mul]
      have : (Q : Int) + a * Q * J ≤ P * b * J := by exact_mod_cast h'
      omega
  have ihi : (P : Int) * d < c * Q ∧ (Q : Int) ≤ (c * Q - P * d) * J := by
    refine ⟨by exact_mod_cast hc, ?_⟩
    rw [Int.sub_mul]
    have : (Q : Int) + P * d * J ≤ c * Q * J := by exact_mod_cast hhi
    omega
  have idm : (n : Int) * Q + r = K * P := by
    have : n * Q + r = K * P := by rw [Nat.mul_comm n Q]; exact hdm
    exact_mod_cast this
  have hir : (r : Int) < Q := by exact_mod_cast hr
  constructor
  · by_cases h0 : r = 0
    · exact .inl h0
    · right
      have hlt : (n : Int) * Q < K * P := by omega
      rcases farey (n := (n : Int)) (K := (K : Int)) i1 iN ib id' iK with hle | hle
      · have := below_far i1 ib ibJ iJ iQ iK0 ilo hle hlt
        have e : ((K : Int) * P - n * Q) = r := by omega
        rw [e] at this
        exact_mod_cast this
      · exfalso
        -- K c ≤ n d, so K c Q ≤ n d Q < K P d
        have h2 : (K : Int) * c * Q ≤ n * d * Q := Int.mul_le_mul_of_nonneg_right hle (Int.le_of_lt iQ)
        have h3 : (n : Int) * Q * d < K * P * d := Int.mul_lt_mul_of_pos_right hlt id'
        have h4 : (K : Int) * (P * d) < K * (c * Q) := Int.mul_lt_mul_of_pos_left ihi.1 iK0
        rw [Int.mul_assoc] at h2 h3
        rw [Int.mul_assoc] at h3
        rw [Int.mul_assoc, Int.mul_comm (d : Int) Q] at h2
        omega
  · have hlt : (K : Int) * P < (n + 1) * Q := by rw [Int.add_mul, Int.one_mul]; omega
    rcases farey (n := (n : Int) + 1) (K := (K : Int)) i1 iN ib id' iK with hle | hle
    · exfalso
      have h2 : ((n : Int) + 1) * b * Q ≤ K * a * Q := Int.mul_le_mul_of_nonneg_right hle (Int.le_of_lt iQ)
      have h3 : (K : Int) * P * b < (n + 1) * Q * b := Int.mul_lt_mul_of_pos_right hlt ib
      have h4 : (K : Int) * (a * Q) ≤ K * (P * b) := Int.mul_le_mul_of_nonneg_left (by rcases ilo with h | ⟨h, _⟩ <;> omega) (Int.le_of_lt iK0)
      rw [Int.mul_assoc, Int.mul_assoc] at h2 h3
      rw [Int.mul_comm (b : Int) Q] at h2
      omega
    · have := above_far i1 id' idJ iJ iQ iK0 ihi hle hlt
      have e : ((n : Int) + 1) * Q - K * P = Q - r := by rw [Int.add_mul, Int.one_mul]; omega
      rw [e] at this
      have e2 : ((Q - r : Nat) : Int) = (Q : Int) - r := by omega
      rw [← e2] at this
      exact_mod_cast this
end Go.Proofs.YtkkipddgkfidmaaGreatDoor
