/- Where the parts of a number's text lie. Plain; no conditions beyond each theorem's own. -/
import Derived.Test.YtkkipddgkfidmaaGreatDoorQl
import Derived.Test.YtkkipddgkfidmaaGreatDoorJb
namespace Go.Proofs.YtkkipddgkfidmaaGreatDoor

theorem data_size (s : ByteArray) : s.data.toList.length = s.size := by simp

theorem at_of {s : ByteArray} {l : List UInt8} (hs : s.data.toList = l) {i : Nat} {c : UInt8} (h : l[i]? = some c) : ∃ hi : i < s.size, s[i]'hi = c := by
  have hi : i < s.size := by
    rw [← data_size, hs]
    by_cases c : i < l.length
    · exact c
    · rw [List.getElem?_eq_none (by omega)] at h; cases h
  refine ⟨hi, ?_⟩
  have := get_data s i hi
  rw [hs, h] at this
  exact (Option.some.inj this).symm
theorem mem_of_at {s : ByteArray} {l m : List UInt8} (hs : s.data.toList = l) {i k : Nat} (hi : i < s.size) (h : l[i]? = m[k]?) : s[i]'hi ∈ m := by
  have := get_data s i hi
  rw [hs, h] at this
  exact List.mem_of_getElem? this

structure NumAt (s : ByteArray) (neg : Bool) (p1 p2 p3 nF : Nat) (X : Option (Bool × List UInt8)) : Prop where
  n0 : neg = true → p1 = 1 ∧ ∃ h : 0 < s.size, s[0]'h = 45
  n1 : neg = false → p1 = 0 ∧ ∀ h : 0 < s.size, s[0]'h ≠ 45
  dI : p1 < p2
  le2 : p2 ≤ p3
  le3 : p3 ≤ s.size
  sz : s.size ≤ 800
  digI : ∀ i (h : i < s.size), p1 ≤ i → i < p2 → 48 ≤ (s[i]'h).toNat ∧ (s[i]'h).toNat ≤ 57
  endI : ∀ h : p2 < s.size, ¬ (48 ≤ (s[p2]'h).toNat ∧ (s[p2]'h).toNat ≤ 57)
  lead : p1 + 1 < p2 → ∀ h : p1 < s.size, 49 ≤ (s[p1]'h).toNat
  noF : nF = 0 → p3 = p2 ∧ ∀ h : p2 < s.size, s[p2]'h ≠ 46
  yesF : 0 < nF → p3 = p2 + 1 + nF ∧ ∃ h : p2 < s.size, s[p2]'h = 46
  digF : ∀ i (h : i < s.size), p2 + 1 ≤ i → i < p3 → 48 ≤ (s[i]'h).toNat ∧ (s[i]'h).toNat ≤ 57
  endF : ∀ h : p3 < s.size, ¬ (48 ≤ (s[p3]'h).toNat ∧ (s[p3]'h).toNat ≤ 57)
  noX : X = none → p3 = s.size
  yesX : ∀ m x, X = some (m, x) → 0 < x.length ∧ s.size = p3 + 2 + x.length ∧ ∃ h : p3 + 1 < s.size, s[p3]'(by omega) = 101 ∧ s[p3 + 1]'h = if m then 45 else 43
  digX : ∀ m x, X = some (m, x) → ∀ i (h : i < s.size), p3 + 2 ≤ i → 48 ≤ (s[i]'h).toNat ∧ (s[i]'h).toNat ≤ 57

theorem text_len {neg : Bool} {V : Nat} {e : Int} {I F : List UInt8} {X : Option (Bool × List UInt8)} {l : List UInt8} (h : TextOf neg V e I F X l) : l.length ≤ 800 := by
  rw [h.is]
  have h1 := h.lIF
  have h2 : (sg neg).length ≤ 1 := sg_len neg
  have h3 : (dotted F).length ≤ F.length + 1 := by
    unfold dotted
    split <;> simp
  have h4 : (xPart X).length ≤ 5 := by
    match X, h.hX with
    | none, _ => simp [xPart]
    | some (m, x), hx =>
      have := (hx m x rfl).2.2
      simp only [xPart, List.length_cons]
      omega
  simp only [List.length_append]
  omega

theorem num_at {neg : Bool} {V : Nat} {e : Int} {I F : List UInt8} {X : Option (Bool × List UInt8)} {l : List UInt8} {s : ByteArray} (h : TextOf neg V e I F X l) (hs : s.data.toList = l) :
    NumAt s neg (sg neg).length ((sg neg).length + I.length) ((sg neg).length + I.length + (dotted F).length) F.length X := by
  have hl : s.size = l.length := by rw [← hs, data_size]
  have hlen := congrArg List.length h.is
  simp only [List.length_append] at hlen
  have h800 := text_len h
  have hI : ∀ k, k < I.length → l[(sg neg).length + k]? = I[k]? := by
    intro k hk
    rw [h.is, List.append_assoc, List.append_assoc, List.getElem?_append_right (by omega), List.getElem?_append_left (by omega), Nat.add_sub_cancel_left]
  have hF : ∀ k, k < (dotted F).length → l[(sg neg).length + I.length + k]? = (dotted F)[k]? := by
    intro k hk
    rw [h.is, List.append_assoc, List.getElem?_append_right (by rw [List.length_append]; omega), List.length_append, Nat.add_sub_cancel_left, List.getElem?_append_left hk]
  have hX : ∀ k, l[(sg neg).length + I.length + (dotted F).length + k]? = (xPart X)[k]? := by
    intro k
    rw [h.is, List.getElem?_append_right (by simp only [List.length_append]; omega), List.length_append, List.length_append, Nat.add_sub_cancel_left]
  have hnd : ∀ c : UInt8, (c = 46 ∨ c = 101) → ¬ (48 ≤ c.toNat ∧ c.toNat ≤ 57) := by
    rintro c (rfl | rfl) <;> decide
  have endF : ∀ h' : (sg neg).length + I.length + (dotted F).length < s.size, s[(sg neg).length + I.length + (dotted F).length]'h' = 101 := by
    intro h'
    match X, hX, hlen with
    | none, _, hlen => exfalso; simp only [xPart, List.length_nil] at hlen; omega
    | some (m, x), hX, _ =>
      have := hX 0
      rw [Nat.add_zero] at this
      obtain ⟨hi, he⟩ := at_of (c := 101) hs (this.trans rfl)
      exact he
  have endI : ∀ h' : (sg neg).length + I.length < s.size, (F.length = 0 → s[(sg neg).length + I.length]'h' = 101) ∧ (0 < F.length → s[(sg neg).length + I.length]'h' = 46) := by
    intro h'
    refine ⟨fun h0 => ?_, fun h0 => ?_⟩
    · have hF0 : F = [] := List.eq_nil_of_length_eq_zero h0
      subst hF0
      exact endF h'
    · have hne : F ≠ [] := by intro e; subst e; simp at h0
      have hd : dotted F = 46 :: F := by unfold dotted; rw [if_neg hne]
      have := hF 0 (by rw [hd]; simp)
      rw [Nat.add_zero, hd] at this
      obtain ⟨hi, he⟩ := at_of (c := 46) hs (this.trans rfl)
      exact he
  refine ⟨?_, ?_, ?_, by omega, by omega, by omega, ?_, ?_, ?_, ?_, ?_, ?_, ?_, ?_, ?_, ?_⟩
  · intro hn
    subst hn
    refine ⟨rfl, ?_⟩
    exact at_of hs (by rw [h.is]; rfl)
  · intro hn
    subst hn
    refine ⟨rfl, fun h' he => ?_⟩
    have := hI 0 h.nI
    have hm := mem_of_at (i := 0) hs h' (by simpa [sg] using this)
    have := (h.dI _ hm).1
    rw [he] at this
    exact absurd this (by decide)
  · have := h.nI; omega
  · intro i hi h1 h2
    have := hI (i - (sg neg).length) (by omega)
    rw [show (sg neg).length + (i - (sg neg).length) = i by omega] at this
    exact h.dI _ (mem_of_at hs hi this)
  · intro h'
    refine hnd _ ?_
    rcases Nat.eq_zero_or_pos F.length with h0 | h0
    · exact .inr ((endI h').1 h0)
    · exact .inl ((endI h').2 h0)
  · intro h1 h'
    have h0 := hI 0 h.nI
    rw [Nat.add_zero] at h0
    have hg := get_data s _ h'
    rw [hs, h0] at hg
    refine h.lead (by omega) _ ?_
    rw [List.head?_eq_getElem?, hg]
    rfl
  · intro h0
    refine ⟨?_, fun h' he => ?_⟩
    · have hF0 : F = [] := List.eq_nil_of_length_eq_zero h0
      subst hF0
      rfl
    · have := (endI h').1 h0
      rw [he] at this
      exact absurd this (by decide)
  · intro h0
    have hne : F ≠ [] := by intro e; subst e; simp at h0
    have hd : dotted F = 46 :: F := by unfold dotted; rw [if_neg hne]
    refine ⟨by rw [hd, List.length_cons]; omega, ?_⟩
    have h' : (sg neg).length + I.length < s.size := by rw [hl, hlen, hd, List.length_cons]; omega
    exact ⟨h', (endI h').2 h0⟩
  · intro i hi h1 h2
    have hne : F ≠ [] := by
      intro e
      subst e
      simp [dotted] at h2
      omega
    have hd : dotted F = 46 :: F := by unfold dotted; rw [if_neg hne]
    have := hF (i - ((sg neg).length + I.length)) (by omega)
    rw [show (sg neg).length + I.length + (i - ((sg neg).length + I.length)) = i by omega, hd, show i - ((sg neg).length + I.length) = (i - ((sg neg).length + I.length) - 1) + 1 by omega, List.getElem?_cons_succ] at this
    exact h.dF _ (mem_of_at hs hi this)
  · intro h'
    exact hnd _ (.inr (endF h'))
  · intro h0
    subst h0
    simp only [xPart, List.length_nil] at hlen
    omega
  · intro m x h0
    subst h0
    have h1 := (h.hX m x rfl).2.1
    simp only [xPart, List.length_cons] at hlen
    have e0 := hX 0
    have e1 := hX 1
    rw [Nat.add_zero] at e0
    obtain ⟨_, he0⟩ := at_of (c := 101) hs (e0.trans rfl)
    obtain ⟨hi1, he1⟩ := at_of (c := if m then 45 else 43) hs (e1.trans rfl)
    exact ⟨h1, by omega, hi1, he0, he1⟩
  · intro m x h0 i hi h1
    subst h0
    have := hX (i - ((sg neg).length + I.length + (dotted F).length))
    rw [show (sg neg).length + I.length + (dotted F).length + (i - ((sg neg).length + I.length + (dotted F).length)) = i by omega] at this
    have e : (xPart (some (m, x)))[i - ((sg neg).length + I.length + (dotted F).length)]? = x[i - ((sg neg).length + I.length + (dotted F).length) - 2]? := by
      obtain ⟨n, hn⟩ : ∃ n, i - ((sg neg).length + I.length + (dotted F).length) = n + 2 := ⟨i - ((sg neg).length + I.length + (dotted F).length) - 2, by omega⟩
      rw [hn]
      rfl
    rw [e] at this
    exact (h.hX m x rfl).1 _ (mem_of_at hs hi this)
end Go.Proofs.YtkkipddgkfidmaaGreatDoor
