/- The plain law of the texts: what fmtEFG's texts say. Plain; no conditions beyond each theorem's own. -/
import Derived.Test.YtkkipddgkfidmaaGreatDoorYd
import Derived.Test.YtkkipddgkfidmaaGreatDoorQg
namespace Go.Proofs.YtkkipddgkfidmaaGreatDoor

/-- What stands behind the digits. -/
def xPart : Option (Bool × List UInt8) → List UInt8
  | none => []
  | some (m, X) => 101 :: (if m then 45 else 43) :: X
def xVal : Option (Bool × List UInt8) → Int
  | none => 0
  | some (m, X) => if m then -(valD X : Int) else (valD X : Int)
def digits (l : List UInt8) : Prop := ∀ c ∈ l, digit c

/-- l is a number's text: its sign, its digits as one number, and the power of ten. -/
structure TextOf (neg : Bool) (V : Nat) (e : Int) (I F : List UInt8) (X : Option (Bool × List UInt8)) (l : List UInt8) : Prop where
  is : l = sg neg ++ I ++ dotted F ++ xPart X
  dI : digits I
  dF : digits F
  nI : 0 < I.length
  lead : 1 < I.length → ∀ c ∈ I.head?, 49 ≤ c.toNat
  lI : I.length ≤ 600
  lF : F.length ≤ 700
  lIF : I.length + F.length ≤ 700
  hX : ∀ m x, X = some (m, x) → digits x ∧ 0 < x.length ∧ x.length ≤ 3
  hV : V = valD (I ++ F)
  he : e = -(F.length : Int) + xVal X

theorem d48 : digit 48 := by unfold digit; decide
theorem digits_nil : digits [] := by intro c h; cases h
theorem digits_append {a b : List UInt8} (ha : digits a) (hb : digits b) : digits (a ++ b) := by
  intro c h
  rcases List.mem_append.1 h with h | h
  · exact ha c h
  · exact hb c h
theorem digits_take {a : List UInt8} (ha : digits a) (k : Nat) : digits (a.take k) := fun c h => ha c (List.mem_of_mem_take h)
theorem digits_drop {a : List UInt8} (ha : digits a) (k : Nat) : digits (a.drop k) := fun c h => ha c (List.mem_of_mem_drop h)
theorem digits_zeros (k : Nat) : digits (zeros k) := by
  intro c h
  have := List.eq_of_mem_replicate h
  subst this
  exact d48
theorem digit_ech {k : Nat} (h : k < 10) : digit (ech k) := (digit_ofNat h).1
theorem val_ech {k : Nat} (h : k < 10) : (ech k).toNat - 48 = k := (digit_ofNat h).2

theorem valD_foldl (l : List UInt8) (v : Nat) : l.foldl (fun v c => 10 * v + (c.toNat - 48)) v = v * 10 ^ l.length + valD l := by
  unfold valD
  induction l generalizing v with
  | nil => simp
  | cons c l ih =>
    rw [List.foldl_cons, ih, List.foldl_cons, ih (10 * 0 + _), List.length_cons, Nat.pow_succ, Nat.add_mul]
    have : 10 * v * 10 ^ l.length = v * (10 ^ l.length * 10) := by ac_rfl
    rw [Nat.mul_zero, Nat.zero_add]
    omega
theorem valD_append (a b : List UInt8) : valD (a ++ b) = valD a * 10 ^ b.length + valD b := by
  show (a ++ b).foldl _ 0 = _
  rw [List.foldl_append, valD_foldl b]
  rfl
theorem valD_zeros (k : Nat) : valD (zeros k) = 0 := by
  induction k with
  | zero => rfl
  | succ k ih =>
    rw [← zeros_snoc, valD_append, ih]
    rfl
theorem valD_pad (D : List UInt8) (k : Nat) : valD (D ++ zeros k) = valD D * 10 ^ k := by
  rw [valD_append, valD_zeros, zeros_len]
  rfl
theorem valD_lead (D : List UInt8) (k : Nat) : valD (zeros k ++ D) = valD D := by
  rw [valD_append, valD_zeros]
  omega

theorem expo_ok {x : Nat} (h : x ≤ 601) : digits (expo x) ∧ 0 < (expo x).length ∧ (expo x).length ≤ 3 ∧ valD (expo x) = x := by
  unfold expo
  by_cases h1 : x < 10
  · rw [if_pos h1]
    refine ⟨?_, by simp, by simp, ?_⟩
    · intro c hc
      simp only [List.mem_cons, List.not_mem_nil, or_false] at hc
      rcases hc with rfl | rfl
      · exact d48
      · exact digit_ech h1
    · show 10 * (10 * 0 + ((48 : UInt8).toNat - 48)) + ((ech x).toNat - 48) = x
      rw [val_ech h1]
      show 10 * (10 * 0 + 0) + x = x
      omega
  · rw [if_neg h1]
    by_cases h2 : x < 100
    · rw [if_pos h2]
      have q1 : x / 10 < 10 := by omega
      have q2 : x % 10 < 10 := by omega
      refine ⟨?_, by simp, by simp, ?_⟩
      · intro c hc
        simp only [List.mem_cons, List.not_mem_nil, or_false] at hc
        rcases hc with rfl | rfl
        · exact digit_ech q1
        · exact digit_ech q2
      · show 10 * (10 * 0 + ((ech (x / 10)).toNat - 48)) + ((ech (x % 10)).toNat - 48) = x
        rw [val_ech q1, val_ech q2]
        omega
    · rw [if_neg h2]
      have q0 : x / 100 < 10 := by omega
      have q1 : x / 10 % 10 < 10 := by omega
      have q2 : x % 10 < 10 := by omega
      refine ⟨?_, by simp, by simp, ?_⟩
      · intro c hc
        simp only [List.mem_cons, List.not_mem_nil, or_false] at hc
        rcases hc with rfl | rfl | rfl
        · exact digit_ech q0
        · exact digit_ech q1
        · exact digit_ech q2
      · show 10 * (10 * (10 * 0 + ((ech (x / 100)).toNat - 48)) + ((ech (x / 10 % 10)).toNat - 48)) + ((ech (x % 10)).toNat - 48) = x
        rw [val_ech q0, val_ech q1, val_ech q2]
        omega

/-- The text of nought. -/
theorem text_zero (neg : Bool) : TextOf neg 0 0 [48] [] none (sg neg ++ [48]) where
  is := by simp [dotted, xPart]
  dI := by intro c h; simp at h; subst h; exact d48
  dF := digits_nil
  nI := by decide
  lead := fun h => absurd h (by decide)
  lI := by decide
  lF := by decide
  lIF := by decide
  hX := fun m x h => by cases h
  hV := by decide
  he := rfl

/-- The text without an exponent. -/
theorem text_f (neg : Bool) (dp : Int) (D : List UInt8) (hd : digits D) (h0 : 0 < D.length) (h32 : D.length ≤ 32) (hdp0 : -600 ≤ dp) (hdp1 : dp ≤ 600) (hl : ∀ c ∈ D.head?, 49 ≤ c.toNat) :
    ∃ z : Nat, TextOf neg (valD D * 10 ^ z) (dp - D.length - z) (intPart dp D) (fracPart dp D) none (fText neg dp D) := by
  have hc48 : digits [48] := by intro c h; simp at h; subst h; exact d48
  refine ⟨(dp - D.length).toNat, ?_⟩
  unfold fText
  refine ⟨by simp [xPart], ?_, ?_, ?_, ?_, ?_, ?_, ?_, (fun m x h => by cases h), ?_, ?_⟩
  · unfold intPart
    split
    · exact digits_append (digits_take hd _) (digits_zeros _)
    · exact hc48
  · unfold fracPart
    split
    · exact digits_drop hd _
    · exact digits_append (digits_zeros _) hd
  · unfold intPart
    split
    · simp [zeros]; omega
    · decide
  · unfold intPart
    split
    · intro _ c hc
      refine hl c ?_
      match D, h0, hc with
      | [], h0, _ => exact absurd h0 (by decide)
      | a :: l, _, hc =>
        obtain ⟨n, hn⟩ : ∃ n, dp.toNat = n + 1 := ⟨dp.toNat - 1, by omega⟩
        rw [hn] at hc
        simpa using hc
    · intro h; exact absurd h (by decide)
  · unfold intPart
    split
    · simp [zeros]; omega
    · decide
  · unfold fracPart
    split
    · simp; omega
    · simp [zeros]; omega
  · unfold intPart fracPart
    split
    · simp [zeros]; omega
    · simp [zeros]; omega
  · unfold intPart fracPart
    split
    · by_cases c : dp.toNat ≤ D.length
      · rw [show dp.toNat - D.length = 0 by omega, show (dp - (D.length : Int)).toNat = 0 by omega]
        simp [zeros]
      · rw [List.drop_of_length_le (by omega), List.take_of_length_le (by omega), List.append_nil, valD_pad]
        congr 2
        omega
    · rw [show (dp - (D.length : Int)).toNat = 0 by omega, Nat.pow_zero, Nat.mul_one, ← List.append_assoc, show ([48] : List UInt8) ++ zeros (-dp).toNat = zeros (1 + (-dp).toNat) by unfold zeros; rw [Nat.add_comm, List.replicate_succ]; rfl, valD_lead]
  · unfold fracPart xVal
    split
    · simp only [List.length_drop]; omega
    · simp only [List.length_append, zeros_len]; omega

/-- The text with an exponent. -/
theorem text_e (neg : Bool) (dp : Int) (D : List UInt8) (hd : digits D) (h0 : 0 < D.length) (h32 : D.length ≤ 32) (hdp0 : -600 ≤ dp) (hdp1 : dp ≤ 600) :
    TextOf neg (valD D) (dp - D.length) (D.take 1) (D.drop 1) (some (decide (dp < 1), expo (dp - 1).natAbs)) (eText neg dp D) := by
  have hx := expo_ok (x := (dp - 1).natAbs) (by omega)
  have hl1 : (D.take 1).length = 1 := by rw [List.length_take]; omega
  refine ⟨?_, digits_take hd _, digits_drop hd _, by omega, fun h => absurd h (by omega), by omega, ?_, ?_, ?_, ?_, ?_⟩
  · unfold eText xPart
    by_cases c : dp < 1 <;> simp [c]
  · rw [List.length_drop]; omega
  · rw [List.length_drop]; omega
  · intro m x h
    simp only [Option.some.injEq, Prod.mk.injEq] at h
    obtain ⟨_, rfl⟩ := h
    exact ⟨hx.1, hx.2.1, hx.2.2.1⟩
  · rw [List.take_append_drop]
  · rw [List.length_drop]
    simp only [xVal]
    rw [hx.2.2.2]
    by_cases c : dp < 1 <;> simp [c] <;> omega

theorem same_of (v z a : Nat) (e p : Int) (h : e = (a : Int) - p - (z : Int)) : Same (v * 10 ^ z) e (v * 10 ^ a) p := by
  unfold Same
  rw [Nat.mul_assoc, Nat.mul_assoc, Nat.mul_assoc v, Nat.mul_assoc v, ← Nat.pow_add, ← Nat.pow_add, ← Nat.pow_add, ← Nat.pow_add]
  congr 2
  omega
end Go.Proofs.YtkkipddgkfidmaaGreatDoor
