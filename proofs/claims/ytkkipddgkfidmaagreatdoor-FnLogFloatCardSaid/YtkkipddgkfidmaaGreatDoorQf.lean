/- The plain law of digits: what the decimal digits of a number say when read back, and what zeros behind them are worth. Plain; no conditions beyond each theorem's own. -/
import Derived.Lib.ItoaNum
namespace Go.Proofs.YtkkipddgkfidmaaGreatDoor

/-- What a row of digits says. -/
def valD (l : List UInt8) : Nat := l.foldl (fun v c => 10 * v + (c.toNat - 48)) 0
def digit (c : UInt8) : Prop := 48 ≤ c.toNat ∧ c.toNat ≤ 57

theorem valD_snoc (l : List UInt8) (c : UInt8) : valD (l ++ [c]) = 10 * valD l + (c.toNat - 48) := by
  unfold valD
  rw [List.foldl_append]
  rfl

theorem digit_ofNat {k : Nat} (h : k < 10) : digit (UInt8.ofNat (48 + k)) ∧ (UInt8.ofNat (48 + k)).toNat - 48 = k := by
  have : (UInt8.ofNat (48 + k)).toNat = 48 + k := by
    rw [UInt8.toNat_ofNat']
    omega
  unfold digit
  omega

theorem valD_dec (u : Nat) : valD (Lib.decDigits u) = u ∧ (∀ c ∈ Lib.decDigits u, digit c) := by
  induction u using Nat.strongRecOn with
  | ind u ih =>
    by_cases h : u < 10
    · rw [Lib.decDigits_one h]
      have := digit_ofNat h
      refine ⟨?_, ?_⟩
      · show 10 * 0 + ((UInt8.ofNat (48 + u)).toNat - 48) = u
        omega
      · intro c hc
        rw [List.mem_singleton] at hc
        subst hc
        exact this.1
    · have ih' := ih (u / 10) (by omega)
      have hd := digit_ofNat (k := u % 10) (by omega)
      rw [Lib.decDigits, dif_neg h]
      refine ⟨?_, ?_⟩
      · rw [valD_snoc, ih'.1, hd.2]
        omega
      · intro c hc
        rw [List.mem_append, List.mem_singleton] at hc
        rcases hc with hc | hc
        · exact ih'.2 c hc
        · subst hc
          exact hd.1

/-- The first digit of a number above nought is no nought. -/
theorem dec_head (u : Nat) (h0 : 0 < u) : ∃ c l, Lib.decDigits u = c :: l ∧ 49 ≤ c.toNat := by
  induction u using Nat.strongRecOn with
  | ind u ih =>
    by_cases h : u < 10
    · rw [Lib.decDigits_one h]
      have : (UInt8.ofNat (48 + u)).toNat = 48 + u := by
        rw [UInt8.toNat_ofNat']
        omega
      exact ⟨_, [], rfl, by omega⟩
    · obtain ⟨c, l, e, hc⟩ := ih (u / 10) (by omega) (by omega)
      rw [Lib.decDigits, dif_neg h, e]
      exact ⟨c, _, rfl, hc⟩

theorem valD_take_aux : ∀ (n : Nat) (l : List UInt8), l.length = n → ∀ (k : Nat), k ≤ l.length → (∀ j (h : j < l.length), k ≤ j → l[j] = 48) → valD l = valD (l.take k) * 10 ^ (l.length - k)
  | 0, l, hn, k, _, _ => by
    obtain rfl := List.eq_nil_of_length_eq_zero hn
    simp [valD]
  | n + 1, l, hn, k, hk, hz => by
    have hne : l ≠ [] := by intro h; rw [h] at hn; cases hn
    obtain ⟨l', c, rfl⟩ : ∃ l' c, l = l' ++ [c] := ⟨l.dropLast, l.getLast hne, (List.dropLast_concat_getLast hne).symm⟩
    have hn' : l'.length = n := by simpa using hn
    by_cases e : k = l'.length + 1
    · subst e
      rw [List.take_of_length_le (by simp)]
      simp
    · have hk' : k ≤ l'.length := by simp at hk; omega
      have hc : c = 48 := by
        have := hz l'.length (by simp) hk'
        simpa using this
      subst hc
      have := valD_take_aux n l' hn' k hk' (fun j h hj => by
        have := hz j (by simp; omega) hj
        rwa [List.getElem_append_left h] at this)
      rw [valD_snoc, this, List.take_append_of_le_length hk']
      have e2 : (l' ++ [48]).length - k = (l'.length - k) + 1 := by simp; omega
      rw [e2, Nat.pow_succ]
      have h48 : ((48 : UInt8).toNat - 48) = 0 := rfl
      rw [h48, Nat.add_zero]
      ac_rfl
/-- Zeros behind count tens. -/
theorem valD_take (l : List UInt8) (k : Nat) (hk : k ≤ l.length) (hz : ∀ j (h : j < l.length), k ≤ j → l[j] = 48) : valD l = valD (l.take k) * 10 ^ (l.length - k) := valD_take_aux l.length l rfl k hk hz
end Go.Proofs.YtkkipddgkfidmaaGreatDoor
