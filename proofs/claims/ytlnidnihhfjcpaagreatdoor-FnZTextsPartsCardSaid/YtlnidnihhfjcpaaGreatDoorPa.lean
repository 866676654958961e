/- The plain law of escaping: a text of whole characters with another one behind it is escaped as both are, one behind the other. No program stands in this text; no conditions beyond each theorem's own. -/
import Derived.Lib.DecodeN
namespace Go.Proofs.YtlnidnihhfjcpaaGreatDoor

/-- The rune and the width at the head of a list of bytes. -/
def dec (l : List UInt8) : Nat × Nat := Lib.decodeN l.length (l.getD 0 0).toNat (l.getD 1 0).toNat (l.getD 2 0).toNat (l.getD 3 0).toNat

/-- The head is a whole character: no byte that must be replaced. -/
def Whole (l : List UInt8) : Prop := ¬ ((dec l).1 = 65533 ∧ (dec l).2 = 1)
instance (l : List UInt8) : Decidable (Whole l) := by unfold Whole; infer_instance

def hexD (n : Nat) : UInt8 := [48, 49, 50, 51, 52, 53, 54, 55, 56, 57, 97, 98, 99, 100, 101, 102].getD n 0
def plainB (c : UInt8) : Bool := decide (32 ≤ c.toNat) && (c.toNat != 92) && (c.toNat != 34)
def escC (c : UInt8) : List UInt8 :=
  if c.toNat = 92 ∨ c.toNat = 34 then [92, c]
  else if c.toNat = 10 then [92, 110]
  else if c.toNat = 13 then [92, 114]
  else if c.toNat = 9 then [92, 116]
  else [92, 117, 48, 48, hexD (c.toNat / 16), hexD (c.toNat % 16)]

def escN : Nat → List UInt8 → List UInt8
  | 0, _ => []
  | _ + 1, [] => []
  | f + 1, c :: rest =>
    if c.toNat < 128 then (if plainB c then c :: escN f rest else escC c ++ escN f rest)
    else if Whole (c :: rest) then (c :: rest).take (dec (c :: rest)).2 ++ escN f ((c :: rest).drop (dec (c :: rest)).2)
    else [92, 117, 102, 102, 102, 100] ++ escN f rest
def esc (l : List UInt8) : List UInt8 := escN l.length l

def truN : Nat → List UInt8 → List UInt8
  | 0, _ => []
  | _ + 1, [] => []
  | f + 1, c :: rest =>
    if Whole (c :: rest) then (c :: rest).take (dec (c :: rest)).2 ++ truN f ((c :: rest).drop (dec (c :: rest)).2)
    else [239, 191, 189] ++ truN f rest
def tru (l : List UInt8) : List UInt8 := truN l.length l

theorem decodeN_width (n b0 b1 b2 b3 : Nat) (hn : 1 ≤ n) : 1 ≤ (Lib.decodeN n b0 b1 b2 b3).2 ∧ (Lib.decodeN n b0 b1 b2 b3).2 ≤ n ∧ (Lib.decodeN n b0 b1 b2 b3).2 ≤ 4 := by
  unfold Lib.decodeN
  repeat' split
  all_goals (simp only; omega)

theorem dec_width {l : List UInt8} (h : l ≠ []) : 1 ≤ (dec l).2 ∧ (dec l).2 ≤ l.length ∧ (dec l).2 ≤ 4 := by
  have : 1 ≤ l.length := by cases l with | nil => exact absurd rfl h | cons a b => simp
  exact decodeN_width _ _ _ _ _ this

theorem dec_ascii {c : UInt8} {rest : List UInt8} (h : c.toNat < 128) : dec (c :: rest) = (c.toNat, 1) := by
  unfold dec Lib.decodeN
  simp [h]
theorem whole_ascii {c : UInt8} {rest : List UInt8} (h : c.toNat < 128) : Whole (c :: rest) := by
  unfold Whole
  rw [dec_ascii h]
  simp only
  omega
theorem dec_one {c : UInt8} {rest : List UInt8} (h : ¬ c.toNat < 128) (h1 : (dec (c :: rest)).2 = 1) : (dec (c :: rest)).1 = 65533 := by
  unfold dec Lib.decodeN at *
  simp only [List.getD_cons_zero, h, if_false] at *
  revert h1
  repeat' split
  all_goals simp

/-- More text behind a whole character does not change it. -/
theorem decodeN_more (n m b0 b1 b2 b3 c1 c2 c3 : Nat) (h1 : 1 < n → c1 = b1) (h2 : 2 < n → c2 = b2) (h3 : 3 < n → c3 = b3) (hw : ¬ ((Lib.decodeN n b0 b1 b2 b3).1 = 65533 ∧ (Lib.decodeN n b0 b1 b2 b3).2 = 1)) :
    Lib.decodeN (n + m) b0 c1 c2 c3 = Lib.decodeN n b0 b1 b2 b3 := by
  unfold Lib.decodeN at hw ⊢
  by_cases a0 : b0 < 128
  · simp only [a0, if_true]
  · simp only [a0, if_false] at hw ⊢
    by_cases a1 : b0 / 32 = 6 ∧ (1 < n ∧ b1 / 64 = 2)
    · obtain ⟨e1, e2, e3⟩ := a1
      have := h1 e2
      subst this
      have A1 : b0 / 32 = 6 ∧ (1 < n + m ∧ c1 / 64 = 2) := ⟨e1, by omega, e3⟩
      have A2 : b0 / 32 = 6 ∧ (1 < n ∧ c1 / 64 = 2) := ⟨e1, e2, e3⟩
      rw [if_pos A1, if_pos A2]
    · rw [if_neg a1] at hw ⊢
      by_cases a2 : b0 / 16 = 14 ∧ (1 < n ∧ b1 / 64 = 2) ∧ (2 < n ∧ b2 / 64 = 2)
      · obtain ⟨e1, ⟨e2, e3⟩, e4, e5⟩ := a2
        have t1 := h1 e2
        have t2 := h2 e4
        subst t1 t2
        have N1 : ¬ (b0 / 32 = 6 ∧ (1 < n + m ∧ c1 / 64 = 2)) := fun h => by omega
        have A1 : b0 / 16 = 14 ∧ (1 < n + m ∧ c1 / 64 = 2) ∧ (2 < n + m ∧ c2 / 64 = 2) := ⟨e1, ⟨by omega, e3⟩, by omega, e5⟩
        have A2 : b0 / 16 = 14 ∧ (1 < n ∧ c1 / 64 = 2) ∧ (2 < n ∧ c2 / 64 = 2) := ⟨e1, ⟨e2, e3⟩, e4, e5⟩
        rw [if_neg N1, if_pos A1, if_pos A2]
      · rw [if_neg a2] at hw ⊢
        by_cases a3 : b0 / 8 = 30 ∧ (1 < n ∧ b1 / 64 = 2) ∧ (2 < n ∧ b2 / 64 = 2) ∧ (3 < n ∧ b3 / 64 = 2)
        · obtain ⟨e1, ⟨e2, e3⟩, ⟨e4, e5⟩, e6, e7⟩ := a3
          have t1 := h1 e2
          have t2 := h2 e4
          have t3 := h3 e6
          subst t1 t2 t3
          have N1 : ¬ (b0 / 32 = 6 ∧ (1 < n + m ∧ c1 / 64 = 2)) := fun h => by omega
          have N2 : ¬ (b0 / 16 = 14 ∧ (1 < n + m ∧ c1 / 64 = 2) ∧ (2 < n + m ∧ c2 / 64 = 2)) := fun h => by omega
          have A1 : b0 / 8 = 30 ∧ (1 < n + m ∧ c1 / 64 = 2) ∧ (2 < n + m ∧ c2 / 64 = 2) ∧ (3 < n + m ∧ c3 / 64 = 2) := ⟨e1, ⟨by omega, e3⟩, ⟨by omega, e5⟩, by omega, e7⟩
          have A2 : b0 / 8 = 30 ∧ (1 < n ∧ c1 / 64 = 2) ∧ (2 < n ∧ c2 / 64 = 2) ∧ (3 < n ∧ c3 / 64 = 2) := ⟨e1, ⟨e2, e3⟩, ⟨e4, e5⟩, e6, e7⟩
          rw [if_neg N1, if_neg N2, if_pos A1, if_pos A2]
        · rw [if_neg a3] at hw
          exact absurd ⟨rfl, rfl⟩ hw

theorem getD_append_left (l r : List UInt8) (i : Nat) (h : i < l.length) : (l ++ r).getD i 0 = l.getD i 0 := by
  simp [List.getD, List.getElem?_append_left h]

theorem dec_more {l : List UInt8} (r : List UInt8) (h : l ≠ []) (hw : Whole l) : dec (l ++ r) = dec l := by
  have hl : 1 ≤ l.length := by cases l with | nil => exact absurd rfl h | cons a b => simp
  unfold dec
  rw [List.length_append, getD_append_left l r 0 (by omega)]
  exact decodeN_more _ _ _ _ _ _ _ _ _ (fun k => by rw [getD_append_left l r 1 k]) (fun k => by rw [getD_append_left l r 2 k]) (fun k => by rw [getD_append_left l r 3 k]) hw
theorem whole_more {l : List UInt8} (r : List UInt8) (h : l ≠ []) (hw : Whole l) : Whole (l ++ r) := by
  unfold Whole at *
  rw [dec_more r h hw]
  exact hw

/-! ### fuel -/
theorem escN_fuel : ∀ (f g : Nat) (l : List UInt8), l.length ≤ f → l.length ≤ g → escN f l = escN g l
  | f, g, [], _, _ => by cases f <;> cases g <;> rfl
  | 0, _, c :: rest, h, _ => by simp at h
  | _, 0, c :: rest, _, h => by simp at h
  | f + 1, g + 1, c :: rest, hf, hg => by
    have hw := dec_width (l := c :: rest) (by simp)
    simp only [List.length_cons] at hf hg
    unfold escN
    rw [escN_fuel f g rest (by omega) (by omega), escN_fuel f g ((c :: rest).drop (dec (c :: rest)).2) (by simp; omega) (by simp; omega)]
theorem truN_fuel : ∀ (f g : Nat) (l : List UInt8), l.length ≤ f → l.length ≤ g → truN f l = truN g l
  | f, g, [], _, _ => by cases f <;> cases g <;> rfl
  | 0, _, c :: rest, h, _ => by simp at h
  | _, 0, c :: rest, _, h => by simp at h
  | f + 1, g + 1, c :: rest, hf, hg => by
    have hw := dec_width (l := c :: rest) (by simp)
    simp only [List.length_cons] at hf hg
    unfold truN
    rw [truN_fuel f g rest (by omega) (by omega), truN_fuel f g ((c :: rest).drop (dec (c :: rest)).2) (by simp; omega) (by simp; omega)]

theorem esc_nil : esc [] = [] := rfl
theorem tru_nil : tru [] = [] := rfl
theorem esc_plain {c : UInt8} {rest : List UInt8} (h : c.toNat < 128) (hp : plainB c = true) : esc (c :: rest) = c :: esc rest := by
  unfold esc; simp only [List.length_cons]; rw [escN.eq_3, if_pos h, if_pos hp]
theorem esc_special {c : UInt8} {rest : List UInt8} (h : c.toNat < 128) (hp : plainB c = false) : esc (c :: rest) = escC c ++ esc rest := by
  unfold esc; simp only [List.length_cons]; rw [escN.eq_3, if_pos h, if_neg (by simp [hp])]
theorem esc_whole {c : UInt8} {rest : List UInt8} (h : ¬ c.toNat < 128) (hw : Whole (c :: rest)) : esc (c :: rest) = (c :: rest).take (dec (c :: rest)).2 ++ esc ((c :: rest).drop (dec (c :: rest)).2) := by
  have hd := dec_width (l := c :: rest) (by simp)
  unfold esc; simp only [List.length_cons]; rw [escN.eq_3, if_neg h, if_pos hw]
  rw [escN_fuel rest.length _ _ (by simp; omega) (Nat.le_refl _)]
theorem esc_broken {c : UInt8} {rest : List UInt8} (h : ¬ c.toNat < 128) (hw : ¬ Whole (c :: rest)) : esc (c :: rest) = [92, 117, 102, 102, 102, 100] ++ esc rest := by
  unfold esc; simp only [List.length_cons]; rw [escN.eq_3, if_neg h, if_neg hw]
theorem tru_whole {c : UInt8} {rest : List UInt8} (hw : Whole (c :: rest)) : tru (c :: rest) = (c :: rest).take (dec (c :: rest)).2 ++ tru ((c :: rest).drop (dec (c :: rest)).2) := by
  have hd := dec_width (l := c :: rest) (by simp)
  unfold tru; simp only [List.length_cons]; rw [truN.eq_3, if_pos hw]
  rw [truN_fuel rest.length _ _ (by simp; omega) (Nat.le_refl _)]
theorem tru_broken {c : UInt8} {rest : List UInt8} (hw : ¬ Whole (c :: rest)) : tru (c :: rest) = [239, 191, 189] ++ tru rest := by
  unfold tru; simp only [List.length_cons]; rw [truN.eq_3, if_neg hw]

/-! ### lengths -/
theorem escC_length (c : UInt8) : (escC c).length ≤ 6 := by
  unfold escC
  repeat' split
  all_goals simp
theorem esc_length : ∀ (k : Nat) (l : List UInt8), l.length ≤ k → (esc l).length ≤ 6 * l.length
  | _, [], _ => by simp [esc_nil]
  | 0, c :: rest, h => by simp at h
  | k + 1, c :: rest, h => by
    simp only [List.length_cons] at h
    by_cases a : c.toNat < 128
    · cases hp : plainB c with
      | true => rw [esc_plain a hp]; have := esc_length k rest (by omega); simp; omega
      | false => rw [esc_special a hp]; have := esc_length k rest (by omega); have := escC_length c; simp; omega
    · by_cases b : Whole (c :: rest)
      · have hd := dec_width (l := c :: rest) (by simp)
        rw [esc_whole a b]
        have := esc_length k ((c :: rest).drop (dec (c :: rest)).2) (by simp; omega)
        simp only [List.length_append, List.length_take, List.length_drop, List.length_cons] at *
        omega
      · rw [esc_broken a b]; have := esc_length k rest (by omega); simp; omega
theorem tru_length : ∀ (k : Nat) (l : List UInt8), l.length ≤ k → l.length ≤ (tru l).length ∧ (tru l).length ≤ 3 * l.length
  | _, [], _ => by simp [tru_nil]
  | 0, c :: rest, h => by simp at h
  | k + 1, c :: rest, h => by
    simp only [List.length_cons] at h
    by_cases b : Whole (c :: rest)
    · have hd := dec_width (l := c :: rest) (by simp)
      rw [tru_whole b]
      have := tru_length k ((c :: rest).drop (dec (c :: rest)).2) (by simp; omega)
      simp only [List.length_append, List.length_take, List.length_drop, List.length_cons] at *
      omega
    · rw [tru_broken b]; have := tru_length k rest (by omega); simp; omega

/-- THE LAW: behind a text that is what its replacement makes of it, a text is escaped by itself. -/
theorem esc_parts : ∀ (k : Nat) (a b : List UInt8), a.length ≤ k → tru a = a → esc (a ++ b) = esc a ++ esc b
  | _, [], b, _, _ => by simp [esc_nil]
  | 0, c :: rest, b, h, _ => by simp at h
  | k + 1, c :: rest, b, h, ht => by
    simp only [List.length_cons] at h
    by_cases w : Whole (c :: rest)
    · have hd := dec_width (l := c :: rest) (by simp)
      have hm := dec_more b (by simp) w
      have wm := whole_more b (by simp) w
      rw [tru_whole w] at ht
      have hsplit : (c :: rest) = (c :: rest).take (dec (c :: rest)).2 ++ (c :: rest).drop (dec (c :: rest)).2 := (List.take_append_drop _ _).symm
      have ht2 : tru ((c :: rest).drop (dec (c :: rest)).2) = (c :: rest).drop (dec (c :: rest)).2 := List.append_cancel_left (ht.trans hsplit)
      by_cases a : c.toNat < 128
      · have e1 : dec (c :: rest) = (c.toNat, 1) := dec_ascii a
        rw [e1] at ht2
        have ht3 : tru rest = rest := by simpa using ht2
        have ih := esc_parts k rest b (by omega) ht3
        rw [List.cons_append]
        cases hp : plainB c with
        | true => rw [esc_plain a hp, esc_plain a hp, ih]; rfl
        | false => rw [esc_special a hp, esc_special a hp, ih, List.append_assoc]
      · have ih := esc_parts k ((c :: rest).drop (dec (c :: rest)).2) b (by simp; omega) ht2
        have hcat : (c :: rest) ++ b = c :: (rest ++ b) := rfl
        rw [hcat] at hm wm
        rw [hcat, esc_whole a wm, hm, esc_whole a w, ← hcat, List.take_append_of_le_length (by omega), List.drop_append_of_le_length (by omega), ih, List.append_assoc]
    · rw [tru_broken w] at ht
      have h1 := congrArg List.length ht
      have h2 := (tru_length rest.length rest (Nat.le_refl _)).1
      simp at h1
      omega
end Go.Proofs.YtlnidnihhfjcpaaGreatDoor
