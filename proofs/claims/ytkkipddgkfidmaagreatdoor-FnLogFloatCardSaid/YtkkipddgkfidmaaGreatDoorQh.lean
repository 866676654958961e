/- What the bits of floats say: which are numbers, how they compare with themselves, with nought and with the greatest one; a float of 32 bits widened and narrowed again is itself. Plain; no conditions beyond each theorem's own. -/
import Derived.Laws.FloatArith
namespace Go.Proofs.YtkkipddgkfidmaaGreatDoor
open Go Ieee

/-- The parts of a word of 64 bits. -/
def mag64 (r : Nat) : Nat := if r < 4503599627370496 then r else 4503599627370496 + r % 4503599627370496
def plc64 (r : Nat) : Int := if r < 4503599627370496 then -1074 else -1074 + (r / 4503599627370496 - 1 : Nat)
def mag32 (r : Nat) : Nat := if r < 8388608 then r else 8388608 + r % 8388608
def plc32 (r : Nat) : Int := if r < 8388608 then -149 else -149 + (r / 8388608 - 1 : Nat)

theorem read64 (w : Nat) : double.read w = if w % 9223372036854775808 < 9218868437227405312 then .number (w / 9223372036854775808 % 2 == 1) (mag64 (w % 9223372036854775808)) (plc64 (w % 9223372036854775808)) else if w % 9223372036854775808 = 9218868437227405312 then .infinity (w / 9223372036854775808 % 2 == 1) else .nan (w / 9223372036854775808 % 2 == 1) (w % 9223372036854775808 - 9218868437227405312) := by
  show (if w % 9223372036854775808 < 4503599627370496 then Datum.number (w / 9223372036854775808 % 2 == 1) (w % 9223372036854775808) (-1074) else if w % 9223372036854775808 < 9218868437227405312 then Datum.number (w / 9223372036854775808 % 2 == 1) (4503599627370496 + w % 9223372036854775808 % 4503599627370496) (-1074 + (w % 9223372036854775808 / 4503599627370496 - 1 : Nat)) else if w % 9223372036854775808 = 9218868437227405312 then Datum.infinity (w / 9223372036854775808 % 2 == 1) else Datum.nan (w / 9223372036854775808 % 2 == 1) (w % 9223372036854775808 - 9218868437227405312)) = _
  unfold mag64 plc64
  generalize w % 9223372036854775808 = r
  generalize w / 9223372036854775808 = t
  by_cases h : r < 4503599627370496
  · rw [if_pos h, if_pos (by omega), if_pos h, if_pos h]
  · rw [if_neg h, if_neg h, if_neg h]
theorem read32 (w : Nat) : single.read w = if w % 2147483648 < 2139095040 then .number (w / 2147483648 % 2 == 1) (mag32 (w % 2147483648)) (plc32 (w % 2147483648)) else if w % 2147483648 = 2139095040 then .infinity (w / 2147483648 % 2 == 1) else .nan (w / 2147483648 % 2 == 1) (w % 2147483648 - 2139095040) := by
  show (if w % 2147483648 < 8388608 then Datum.number (w / 2147483648 % 2 == 1) (w % 2147483648) (-149) else if w % 2147483648 < 2139095040 then Datum.number (w / 2147483648 % 2 == 1) (8388608 + w % 2147483648 % 8388608) (-149 + (w % 2147483648 / 8388608 - 1 : Nat)) else if w % 2147483648 = 2139095040 then Datum.infinity (w / 2147483648 % 2 == 1) else Datum.nan (w / 2147483648 % 2 == 1) (w % 2147483648 - 2139095040)) = _
  unfold mag32 plc32
  generalize w % 2147483648 = r
  generalize w / 2147483648 = t
  by_cases h : r < 8388608
  · rw [if_pos h, if_pos (by omega), if_pos h, if_pos h]
  · rw [if_neg h, if_neg h, if_neg h]

/-- A number; an infinity; no number. -/
def Fin64 (w : Nat) : Prop := w % 9223372036854775808 < 9218868437227405312
def Inf64 (w : Nat) : Prop := w % 9223372036854775808 = 9218868437227405312
def NaN64 (w : Nat) : Prop := 9218868437227405312 < w % 9223372036854775808
def neg64 (w : Nat) : Bool := w / 9223372036854775808 % 2 == 1
def Fin32 (w : Nat) : Prop := w % 2147483648 < 2139095040
def Inf32 (w : Nat) : Prop := w % 2147483648 = 2139095040
def NaN32 (w : Nat) : Prop := 2139095040 < w % 2147483648
def neg32 (w : Nat) : Bool := w / 2147483648 % 2 == 1

theorem fin64 {w : Nat} (h : Fin64 w) : double.read w = .number (neg64 w) (mag64 (w % 9223372036854775808)) (plc64 (w % 9223372036854775808)) := by
  unfold Fin64 at h
  rw [read64, if_pos h]; rfl
theorem inf64 {w : Nat} (h : Inf64 w) : double.read w = .infinity (neg64 w) := by
  unfold Inf64 at h
  rw [read64, if_neg (by omega), if_pos h]; rfl
theorem nan64 {w : Nat} (h : NaN64 w) : ∃ s t, double.read w = .nan s t := by
  unfold NaN64 at h
  rw [read64, if_neg (by omega), if_neg (by omega)]; exact ⟨_, _, rfl⟩
theorem fin32 {w : Nat} (h : Fin32 w) : single.read w = .number (neg32 w) (mag32 (w % 2147483648)) (plc32 (w % 2147483648)) := by
  unfold Fin32 at h
  rw [read32, if_pos h]; rfl
theorem inf32 {w : Nat} (h : Inf32 w) : single.read w = .infinity (neg32 w) := by
  unfold Inf32 at h
  rw [read32, if_neg (by omega), if_pos h]; rfl
theorem nan32 {w : Nat} (h : NaN32 w) : ∃ s t, single.read w = .nan s t := by
  unfold NaN32 at h
  rw [read32, if_neg (by omega), if_neg (by omega)]; exact ⟨_, _, rfl⟩
theorem kinds64 (w : Nat) : Fin64 w ∨ Inf64 w ∨ NaN64 w := by unfold Fin64 Inf64 NaN64; omega
theorem kinds32 (w : Nat) : Fin32 w ∨ Inf32 w ∨ NaN32 w := by unfold Fin32 Inf32 NaN32; omega

theorem compare_self (a : Int) : compare a a = .eq := by
  simp

theorem order_self {w : Nat} (h : Fin64 w ∨ Inf64 w) : double.order w w = some .eq := by
  unfold Format.order
  rcases h with h | h
  · rw [fin64 h]; simp [Datum.order]
  · rw [inf64 h]; simp [Datum.order]
theorem order_nan {w : Nat} (h : NaN64 w) (v : Nat) : double.order w v = none := by
  obtain ⟨s, t, e⟩ := nan64 h
  unfold Format.order
  rw [e]
  cases double.read v <;> rfl
theorem order_nan2 {w : Nat} (h : NaN64 w) (v : Nat) : double.order v w = none := by
  obtain ⟨s, t, e⟩ := nan64 h
  unfold Format.order
  rw [e]
  cases double.read v <;> rfl
theorem sub_fin {w : Nat} (h : Fin64 w) : double.sub w w = some 0 := by
  unfold Format.sub
  rw [fin64 h]
  simp only [Datum.opposite, Datum.sum]
  have : signed (neg64 w) (mag64 (w % 9223372036854775808)) (plc64 (w % 9223372036854775808) - min (plc64 (w % 9223372036854775808)) (plc64 (w % 9223372036854775808))).toNat + signed (!neg64 w) (mag64 (w % 9223372036854775808)) (plc64 (w % 9223372036854775808) - min (plc64 (w % 9223372036854775808)) (plc64 (w % 9223372036854775808))).toNat = 0 := by
    cases neg64 w <;> simp [signed] <;> omega
  rw [this]
  cases neg64 w <;> rfl
theorem sub_inf {w : Nat} (h : Inf64 w) : double.sub w w = none := by
  unfold Format.sub
  rw [inf64 h]
  cases neg64 w <;> rfl
theorem inf_gt0 {w : Nat} (h : Inf64 w) : double.order w 0 = some (if neg64 w then .lt else .gt) := by
  unfold Format.order
  rw [inf64 h, fin64 (show Fin64 0 by unfold Fin64; decide)]
  rfl
theorem inf_max {w : Nat} (h : Inf64 w) : double.order w 9218868437227405311 = some (if neg64 w then .lt else .gt) := by
  unfold Format.order
  rw [inf64 h, fin64 (show Fin64 9218868437227405311 by unfold Fin64; decide)]
  rfl
theorem inf_min {w : Nat} (h : Inf64 w) : double.order w 18442240474082181119 = some (if neg64 w then .lt else .gt) := by
  unfold Format.order
  rw [inf64 h, fin64 (show Fin64 18442240474082181119 by unfold Fin64; decide)]
  rfl
theorem mag64_lt (r : Nat) : mag64 r < 9007199254740992 := by
  unfold mag64
  split <;> omega
theorem plc64_le {r : Nat} (h : r < 9218868437227405312) : -1074 ≤ plc64 r ∧ plc64 r ≤ 971 := by
  unfold plc64
  split <;> omega
theorem fin_max {w : Nat} (h : Fin64 w) : double.order w 9218868437227405311 ≠ some .gt := by
  unfold Format.order
  rw [fin64 h, fin64 (show Fin64 9218868437227405311 by unfold Fin64; decide)]
  have hm := mag64_lt (w % 9223372036854775808)
  have hp := plc64_le h
  rw [show mag64 (9218868437227405311 % 9223372036854775808) = 9007199254740991 by decide, show plc64 (9218868437227405311 % 9223372036854775808) = 971 by decide, show neg64 9218868437227405311 = false by decide]
  generalize mag64 (w % 9223372036854775808) = m at *
  generalize plc64 (w % 9223372036854775808) = p at *
  have hmin : min p 971 = p := by omega
  simp only [Datum.order, hmin, ne_eq, Option.some.injEq, Int.sub_self]
  have h1 : signed (neg64 w) m (Int.toNat 0) ≤ 9007199254740991 := by
    unfold signed
    simp only [Int.toNat_zero, Nat.shiftLeft_zero]
    split <;> omega
  have h2 : 9007199254740991 ≤ signed false 9007199254740991 (971 - p).toNat := by
    unfold signed
    simp only [Bool.false_eq_true, if_false, Nat.shiftLeft_eq]
    have := Nat.two_pow_pos (971 - p).toNat
    have : 9007199254740991 * 1 ≤ 9007199254740991 * 2 ^ (971 - p).toNat := Nat.mul_le_mul_left _ this
    omega
  generalize signed (neg64 w) m (Int.toNat 0) = a at *
  generalize signed false 9007199254740991 (971 - p).toNat = b at *
  intro hc
  rw [Int.compare_eq_gt] at hc
  omega
theorem fin_min {w : Nat} (h : Fin64 w) : double.order w 18442240474082181119 ≠ some .lt := by
  unfold Format.order
  rw [fin64 h, fin64 (show Fin64 18442240474082181119 by unfold Fin64; decide)]
  have hm := mag64_lt (w % 9223372036854775808)
  have hp := plc64_le h
  rw [show mag64 (18442240474082181119 % 9223372036854775808) = 9007199254740991 by decide, show plc64 (18442240474082181119 % 9223372036854775808) = 971 by decide, show neg64 18442240474082181119 = true by decide]
  generalize mag64 (w % 9223372036854775808) = m at *
  generalize plc64 (w % 9223372036854775808) = p at *
  have hmin : min p 971 = p := by omega
  simp only [Datum.order, hmin, ne_eq, Option.some.injEq, Int.sub_self]
  have h1 : -9007199254740991 ≤ signed (neg64 w) m (Int.toNat 0) := by
    unfold signed
    simp only [Int.toNat_zero, Nat.shiftLeft_zero]
    split <;> omega
  have h2 : signed true 9007199254740991 (971 - p).toNat ≤ -9007199254740991 := by
    unfold signed
    simp only [if_true, Nat.shiftLeft_eq]
    have := Nat.two_pow_pos (971 - p).toNat
    have : 9007199254740991 * 1 ≤ 9007199254740991 * 2 ^ (971 - p).toNat := Nat.mul_le_mul_left _ this
    omega
  generalize signed (neg64 w) m (Int.toNat 0) = a at *
  generalize signed true 9007199254740991 (971 - p).toNat = b at *
  intro hc
  rw [Int.compare_eq_lt] at hc
  omega

/-! Widened and narrowed again. -/
theorem cut_zero (neg : Bool) (n : Nat) : Toward.even.cut neg n 0 = n := by
  unfold Toward.cut
  simp [Nat.mod_one]
theorem cut_exact (neg : Bool) (m d : Nat) (hm : 0 < m) : Toward.even.cut neg (m * 2 ^ d) d = m := by
  have hl : d ≤ (m * 2 ^ d).log2 := by
    rw [Nat.le_log2 (Nat.ne_of_gt (Nat.mul_pos hm (Nat.two_pow_pos d)))]
    exact Nat.le_mul_of_pos_left _ hm
  unfold Toward.cut
  simp only [Nat.min_eq_left (show d ≤ (m * 2 ^ d).log2 + 2 by omega), Nat.one_shiftLeft, Nat.mul_div_cancel _ (Nat.two_pow_pos d), Nat.mul_mod_left]
  have := Nat.two_pow_pos d
  have h1 : ¬ (2 ^ d < 2 * 0) := by omega
  have h2 : (2 ^ d == 2 * 0) = false := by rw [beq_eq_false_iff_ne]; omega
  simp [h1, h2]

theorem dconst : double.leastPlace = -1074 ∧ double.binade = 4503599627370496 ∧ double.infRung = 9218868437227405312 := ⟨rfl, rfl, rfl⟩
theorem sconst : single.binade = 8388608 ∧ single.leastPlace = -149 ∧ single.infRung = 2139095040 := ⟨rfl, rfl, rfl⟩

/-- A float of 32 bits as one of 64: its magnitude and place. -/
theorem widen_word (s : Bool) (m : Nat) (i : Int) (hm : 0 < m) (hm2 : m < 16777216) (hi0 : -149 ≤ i) (hi1 : i ≤ 104) :
    ∃ j : Nat, j ≤ 52 ∧ 4503599627370496 ≤ m * 2 ^ j ∧ m * 2 ^ j < 9007199254740992 ∧ double.nearest s m i = double.word s ((i - j + 1075).toNat * 4503599627370496 + (m * 2 ^ j - 4503599627370496)) ∧ j = 52 - m.log2 ∧ m.log2 ≤ 23 := by
  have hl0 : 2 ^ m.log2 ≤ m := Nat.log2_self_le (by omega)
  have hl1 : m < 2 ^ (m.log2 + 1) := Nat.lt_log2_self
  have hl : m.log2 ≤ 23 := by
    have : m.log2 < 24 := (Nat.log2_lt (by omega)).2 (by omega)
    omega
  have e52 : 2 ^ (52 - m.log2) * 2 ^ m.log2 = 4503599627370496 := by
    rw [← Nat.pow_add, show 52 - m.log2 + m.log2 = 52 by omega]
  have b0 : 4503599627370496 ≤ m * 2 ^ (52 - m.log2) := by
    rw [← e52, Nat.mul_comm]
    exact Nat.mul_le_mul_right _ hl0
  have b1 : m * 2 ^ (52 - m.log2) < 9007199254740992 := by
    have : m * 2 ^ (52 - m.log2) < 2 ^ (m.log2 + 1) * 2 ^ (52 - m.log2) := Nat.mul_lt_mul_of_pos_right hl1 (Nat.two_pow_pos _)
    rw [← Nat.pow_add, show m.log2 + 1 + (52 - m.log2) = 53 by omega] at this
    exact this
  refine ⟨52 - m.log2, by omega, b0, b1, ?_, rfl, hl⟩
  unfold Format.nearest
  rw [if_neg (by omega)]
  have hlast : max (i + m.log2 - (double.fractionBits : Int)) double.leastPlace = i + m.log2 - 52 := by
    show max (i + m.log2 - (52 : Int)) (-1074) = _
    omega
  simp only [hlast]
  rw [show (i - (i + (m.log2 : Int) - 52)).toNat = 52 - m.log2 by omega, show ((i + (m.log2 : Int) - 52) - i).toNat = 0 by omega, cut_zero, Nat.shiftLeft_eq]
  rw [dconst.1, dconst.2.1, dconst.2.2]
  refine congrArg _ ?_
  clear hl0 hl1 e52 hlast
  generalize m * 2 ^ (52 - m.log2) = M at *
  generalize m.log2 = L at *
  omega

/-- A float of 64 bits as one of 32. -/
theorem narrow_word (s : Bool) (m j : Nat) (i : Int) (hm : 0 < m) (hm2 : m < 16777216) (hi0 : -149 ≤ i) (hi1 : i ≤ 104) (hn : 8388608 ≤ m ∨ i = -149) (hj0 : 4503599627370496 ≤ m * 2 ^ j) (hj1 : m * 2 ^ j < 9007199254740992) (hj : j = 52 - m.log2) (hl : m.log2 ≤ 23) :
    single.nearest s (m * 2 ^ j) (i - j) = single.word s (if m < 8388608 then m else (i + 150).toNat * 8388608 + (m - 8388608)) := by
  have hM : (m * 2 ^ j).log2 = 52 := (Nat.log2_eq_iff (by omega)).2 ⟨hj0, hj1⟩
  unfold Format.nearest
  rw [if_neg (by omega), hM]
  have hi23 : 8388608 ≤ m → m.log2 = 23 := fun h => (Nat.log2_eq_iff (by omega)).2 ⟨h, hm2⟩
  have hlast : max (i - (j : Int) + (52 : Nat) - (single.fractionBits : Int)) single.leastPlace = i := by
    rw [sconst.2.1]
    show max (i - (j : Int) + (52 : Nat) - (23 : Int)) (-149) = i
    rcases hn with h | h
    · have := hi23 h
      omega
    · omega
  simp only [hlast]
  rw [show (i - (j : Int) - i).toNat = 0 by omega, show (i - (i - (j : Int))).toNat = j by omega, Nat.shiftLeft_zero, cut_exact s m j hm, sconst.1, sconst.2.1, sconst.2.2]
  refine congrArg _ ?_
  clear hj0 hj1 hM hj hl hi23 hlast
  split <;> omega
end Go.Proofs.YtkkipddgkfidmaaGreatDoor
