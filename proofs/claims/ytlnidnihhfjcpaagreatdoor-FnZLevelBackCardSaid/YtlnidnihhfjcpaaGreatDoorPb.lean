/- The plain law of reading levels: what ParseLevel reads out of a text of ASCII is what the reference reads. No program stands in this text; no conditions beyond each theorem's own. -/
namespace Go.Proofs.YtlnidnihhfjcpaaGreatDoor

def upq (c : UInt8) : UInt8 := if 97 ≤ c ∧ c ≤ 122 then c - 32 else c
def lowq (c : UInt8) : UInt8 := if 65 ≤ c ∧ c ≤ 90 then c + 32 else c

def nDebug : List UInt8 := [100, 101, 98, 117, 103]
def nInfo : List UInt8 := [105, 110, 102, 111]
def nWarn : List UInt8 := [119, 97, 114, 110]
def nWarning : List UInt8 := [119, 97, 114, 110, 105, 110, 103]
def nError : List UInt8 := [101, 114, 114, 111, 114]
def nDpanic : List UInt8 := [100, 112, 97, 110, 105, 99]
def nPanic : List UInt8 := [112, 97, 110, 105, 99]
def nFatal : List UInt8 := [102, 97, 116, 97, 108]

/-- The names as they stand, in the order of the package's switch. -/
def look (l : List UInt8) : Option Int :=
  if l = nDebug then some (-1) else if l = nInfo then some 0 else if l = [] then some 0 else if l = nWarn then some 1 else if l = nWarning then some 1
  else if l = nError then some 2 else if l = nDpanic then some 3 else if l = nPanic then some 4 else if l = nFatal then some 5 else none
/-- What ParseLevel reads. -/
def readP (l : List UInt8) : Option Int := if (look l).isSome then look l else look (l.map lowq)
/-- What the reference reads, out of the text in great letters. -/
def readU (l : List UInt8) : Option Int :=
  if nDebug.map upq = l then some (-1) else if nInfo.map upq = l then some 0 else if nWarn.map upq = l then some 1 else if nError.map upq = l then some 2
  else if nDpanic.map upq = l then some 3 else if nPanic.map upq = l then some 4 else if nFatal.map upq = l then some 5 else if l = [] then some 0 else if l = nWarning.map upq then some 1 else none

theorem low_up {c d : UInt8} (hc : c.toNat < 128) (hd : 97 ≤ d.toNat ∧ d.toNat ≤ 122) : lowq c = d ↔ upq c = upq d := by
  have hd' : 97 ≤ d ∧ d ≤ 122 := ⟨by rw [UInt8.le_iff_toNat_le]; exact hd.1, by rw [UInt8.le_iff_toNat_le]; exact hd.2⟩
  have e1 : (upq d).toNat = d.toNat - 32 := by
    unfold upq
    rw [if_pos hd', UInt8.toNat_sub_of_le _ _ (by rw [UInt8.le_iff_toNat_le]; exact Nat.le_trans (by decide) hd.1)]
    rfl
  have e2 : (upq c).toNat = if 97 ≤ c.toNat ∧ c.toNat ≤ 122 then c.toNat - 32 else c.toNat := by
    unfold upq
    by_cases a : 97 ≤ c ∧ c ≤ 122
    · have a' : 97 ≤ c.toNat ∧ c.toNat ≤ 122 := by rw [UInt8.le_iff_toNat_le, UInt8.le_iff_toNat_le] at a; exact a
      rw [if_pos a, if_pos a', UInt8.toNat_sub_of_le _ _ (by rw [UInt8.le_iff_toNat_le]; exact Nat.le_trans (by decide) a'.1)]
      rfl
    · have a' : ¬ (97 ≤ c.toNat ∧ c.toNat ≤ 122) := by rw [UInt8.le_iff_toNat_le, UInt8.le_iff_toNat_le] at a; exact a
      rw [if_neg a, if_neg a']
  have e3 : (lowq c).toNat = if 65 ≤ c.toNat ∧ c.toNat ≤ 90 then c.toNat + 32 else c.toNat := by
    unfold lowq
    by_cases a : 65 ≤ c ∧ c ≤ 90
    · have a' : 65 ≤ c.toNat ∧ c.toNat ≤ 90 := by rw [UInt8.le_iff_toNat_le, UInt8.le_iff_toNat_le] at a; exact a
      rw [if_pos a, if_pos a', UInt8.toNat_add]
      have : (32 : UInt8).toNat = 32 := rfl
      omega
    · have a' : ¬ (65 ≤ c.toNat ∧ c.toNat ≤ 90) := by rw [UInt8.le_iff_toNat_le, UInt8.le_iff_toNat_le] at a; exact a
      rw [if_neg a, if_neg a']
  rw [← UInt8.toNat_inj, ← UInt8.toNat_inj, e1, e2, e3]
  split <;> split <;> omega

theorem lows_up : ∀ (a d : List UInt8), (∀ c ∈ a, c.toNat < 128) → (∀ c ∈ d, 97 ≤ c.toNat ∧ c.toNat ≤ 122) → (a.map lowq = d ↔ d.map upq = a.map upq)
  | [], [], _, _ => by simp
  | [], _ :: _, _, _ => by simp
  | _ :: _, [], _, _ => by simp
  | x :: a, y :: d, ha, hd => by
    have ih := lows_up a d (fun c hc => ha c (List.mem_cons_of_mem _ hc)) (fun c hc => hd c (List.mem_cons_of_mem _ hc))
    have h1 := low_up (ha x (.head _)) (hd y (.head _))
    simp only [List.map_cons, List.cons.injEq, ih, h1]
    constructor
    · rintro ⟨a, b⟩; exact ⟨a.symm, b⟩
    · rintro ⟨a, b⟩; exact ⟨a.symm, b⟩

theorem small (n : List UInt8) (h : (n.all fun c => decide (97 ≤ c.toNat) && decide (c.toNat ≤ 122)) = true) : ∀ c ∈ n, 97 ≤ c.toNat ∧ c.toNat ≤ 122 := by
  intro c hc
  have := List.all_eq_true.1 h c hc
  simpa using this

theorem look_low {l : List UInt8} (h : (look l).isSome = true) : l.map lowq = l := by
  unfold look at h
  by_cases h1 : l = nDebug
  · subst h1; decide
  by_cases h2 : l = nInfo
  · subst h2; decide
  by_cases h3 : l = []
  · subst h3; decide
  by_cases h4 : l = nWarn
  · subst h4; decide
  by_cases h5 : l = nWarning
  · subst h5; decide
  by_cases h6 : l = nError
  · subst h6; decide
  by_cases h7 : l = nDpanic
  · subst h7; decide
  by_cases h8 : l = nPanic
  · subst h8; decide
  by_cases h9 : l = nFatal
  · subst h9; decide
  simp [h1, h2, h3, h4, h5, h6, h7, h8, h9] at h

theorem readP_low (l : List UInt8) : readP l = look (l.map lowq) := by
  unfold readP
  by_cases h : (look l).isSome = true
  · rw [if_pos h, look_low h]
  · rw [if_neg h]

/-- THE LAW. -/
theorem read_same (l : List UInt8) (h : ∀ c ∈ l, c.toNat < 128) : readP l = readU (l.map upq) := by
  rw [readP_low]
  unfold look readU
  have e0 := lows_up l nDebug h (small _ (by decide))
  have e1 := lows_up l nInfo h (small _ (by decide))
  have e2 := lows_up l nWarn h (small _ (by decide))
  have e3 := lows_up l nWarning h (small _ (by decide))
  have e4 := lows_up l nError h (small _ (by decide))
  have e5 := lows_up l nDpanic h (small _ (by decide))
  have e6 := lows_up l nPanic h (small _ (by decide))
  have e7 := lows_up l nFatal h (small _ (by decide))
  have e8 : l.map lowq = [] ↔ l.map upq = [] := by simp
  simp only [e0, e1, e2, e3, e4, e5, e6, e7, e8]
  generalize l.map upq = t
  by_cases h1 : nDebug.map upq = t
  · subst h1; decide
  by_cases h2 : nInfo.map upq = t
  · subst h2; decide
  by_cases h3 : t = []
  · subst h3; decide
  by_cases h4 : nWarn.map upq = t
  · subst h4; decide
  by_cases h5 : nWarning.map upq = t
  · subst h5; decide
  have h6 : ¬ t = nWarning.map upq := fun e => h5 e.symm
  simp only [h1, h2, h3, h4, h5, h6, if_false]
end Go.Proofs.YtlnidnihhfjcpaaGreatDoor
