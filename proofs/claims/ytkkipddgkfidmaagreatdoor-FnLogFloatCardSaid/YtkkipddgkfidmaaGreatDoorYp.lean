/- The contracts of math.IsNaN, IsInf, Abs, Signbit. No conditions beyond each theorem's own. The contracts of AppendFloat. No conditions beyond each theorem's own. The plain law of the cleaning: a nought at the exponent's head is left out. Plain; no conditions beyond each theorem's own. -/
import Derived.Test.YtkkipddgkfidmaaGreatDoorYn
import Derived.WalkLawsBesides
namespace Go.Proofs.YtkkipddgkfidmaaGreatDoor
open Go.RowKit

theorem run18 (b : Nat) (w : World) : (callFunc 18 #[.float .f64 b]).run Tryz.prog w = .ok (.value (.int .u64 b)) w := by
  rw [run_callFunc_extern Tryz.func18 rfl rfl rfl rfl]
  rfl
theorem run42 (n : Int) (w : World) : (callFunc 42 #[.int .u64 n]).run Tryz.prog w = .ok (.value (.float .f64 n.toNat)) w := by
  rw [run_callFunc_extern Tryz.func42 rfl rfl rfl rfl]
  rfl

theorem and_not (b : Nat) (hb : b < 18446744073709551616) : bits .andNot .u64 (b : Int) 9223372036854775808 = ((b % 9223372036854775808 : Nat) : Int) := by
  have e : ~~~ (BitVec.ofInt 64 9223372036854775808) = BitVec.ofNat 64 (2 ^ 63 - 1) := by decide
  show IntKind.u64.wrap (((BitVec.ofInt 64 (b : Int) &&& ~~~ (BitVec.ofInt 64 9223372036854775808)).toNat : Nat) : Int) = _
  rw [e, BitVec.toNat_and, BitVec.ofInt_natCast, BitVec.toNat_ofNat, BitVec.toNat_ofNat, Nat.mod_eq_of_lt (show b < 2 ^ 64 from hb), Nat.mod_eq_of_lt (show 2 ^ 63 - 1 < 2 ^ 64 by decide), Nat.and_two_pow_sub_one_eq_mod, wrapU]
  have : b % 2 ^ 63 < 2 ^ 63 := Nat.mod_lt _ (by decide)
  omega

theorem neg_mod (b : Nat) : Op.negFloat .f64 b % 9223372036854775808 = b % 9223372036854775808 := by
  show (b ^^^ 2 ^ 63) % 2 ^ 63 = b % 2 ^ 63
  rw [Nat.xor_mod_two_pow, Nat.mod_self, Nat.xor_zero]
theorem neg_neg64 {b : Nat} (hb : b < 18446744073709551616) : neg64 (Op.negFloat .f64 b) = !neg64 b := by
  unfold neg64
  have : Op.negFloat .f64 b / 9223372036854775808 = (b / 9223372036854775808) ^^^ 1 := by
    show (b ^^^ 2 ^ 63) / 2 ^ 63 = (b / 2 ^ 63) ^^^ 1
    rw [Nat.xor_div_two_pow, Nat.div_self (by decide)]
  rw [this]
  have h2 : b / 9223372036854775808 = 0 ∨ b / 9223372036854775808 = 1 := by omega
  rcases h2 with h | h <;> rw [h] <;> decide

theorem fabs (b : Nat) (hb : b < 18446744073709551616) (w : World) :
    Calls Tryz.prog 29 #[.float .f64 b] w fun e w' => e = .returned (.float .f64 (b % 9223372036854775808)) ∧ w = w' := by
  have h18 := run18 b
  have h42 := run42 ((b % 9223372036854775808 : Nat) : Int)
  rw [Int.toNat_natCast] at h42
  have ha := and_not b hb
  obtain ⟨r, hr⟩ : ∃ r, b % 9223372036854775808 = r := ⟨_, rfl⟩
  rw [hr] at h42 ha ⊢
  clear hr
  go_enter Tryz.func29, Tryz.ntmps29
  go_wp2
  go_ret
  exact ⟨rfl, rfl⟩

theorem fisNaN (b : Nat) (o : Bool) (ho : (FloatKind.f64.format.order b b != some .eq) = o) (w : World) :
    Calls Tryz.prog 15 #[.float .f64 b] w fun e w' => e = .returned (.bool o) ∧ w = w' := by
  go_enter Tryz.func15, Tryz.ntmps15
  go_wp2
  go_ret
  exact ⟨rfl, rfl⟩

theorem fisInf1 (b : Nat) (o : Bool) (ho : (FloatKind.f64.format.order b 9218868437227405311 == some .gt) = o) (w : World) :
    Calls Tryz.prog 16 #[.float .f64 b, .int .i64 1] w fun e w' => e = .returned (.bool o) ∧ w = w' := by
  go_enter Tryz.func16, Tryz.ntmps16
  go_wp2
  go_ret
  exact ⟨rfl, rfl⟩
theorem fisInf2 (b : Nat) (o : Bool) (ho : (FloatKind.f64.format.order (Op.negFloat .f64 b) 9218868437227405311 == some .gt) = o) (w : World) :
    Calls Tryz.prog 16 #[.float .f64 b, .int .i64 (-1)] w fun e w' => e = .returned (.bool o) ∧ w = w' := by
  have hn : ∀ w, (Op.unary UnOp.neg (Value.float FloatKind.f64 b)).run Tryz.prog w = .ok (.float .f64 (Op.negFloat .f64 b)) w := fun _ => rfl
  go_enter Tryz.func16, Tryz.ntmps16
  go_wp2
  go_ret
  exact ⟨rfl, rfl⟩
theorem fisInf0 (b : Nat) (hb : b < 18446744073709551616) (o : Bool) (ho : (FloatKind.f64.format.order (b % 9223372036854775808) 9218868437227405311 == some .gt) = o) (w : World) :
    Calls Tryz.prog 16 #[.float .f64 b, .int .i64 0] w fun e w' => e = .returned (.bool o) ∧ w = w' := by
  go_enter Tryz.func16, Tryz.ntmps16
  go_wp2_with fail
  refine (fabs b hb w).mono ?_
  rintro e w1 ⟨rfl, rfl⟩
  go_wp2
  go_ret
  exact ⟨rfl, rfl⟩

theorem fsignbit (b : Nat) (w : World) :
    Calls Tryz.prog 17 #[.float .f64 b] w fun e w' => e = .returned (.bool (neg64 b)) ∧ w = w' := by
  have h18 := run18 b
  have hd : decide (wrap64 (b : Int) < 0) = neg64 b := by
    unfold neg64 wrap64
    rw [Bool.eq_iff_iff, decide_eq_true_iff, beq_iff_eq]
    omega
  go_enter Tryz.func17, Tryz.ntmps17
  go_wp2
  go_ret
  exact ⟨rfl, rfl⟩

/-! What IsNaN and IsInf say of each kind. -/
theorem isNaN_at (b : Nat) : (FloatKind.f64.format.order b b != some .eq) = decide (9218868437227405312 < b % 9223372036854775808) := by
  show (Ieee.Format.order Ieee.double b b != some .eq) = _
  rcases kinds64 b with h | h | h
  · rw [order_self (.inl h)]
    unfold Fin64 at h
    symm
    rw [show (some Ordering.eq != some Ordering.eq) = false by decide, decide_eq_false_iff_not]
    omega
  · rw [order_self (.inr h)]
    unfold Inf64 at h
    symm
    rw [show (some Ordering.eq != some Ordering.eq) = false by decide, decide_eq_false_iff_not]
    omega
  · rw [order_nan h]
    unfold NaN64 at h
    symm
    rw [show ((none : Option Ordering) != some Ordering.eq) = true by decide, decide_eq_true_iff]
    exact h
theorem isInf1_at {b : Nat} : (FloatKind.f64.format.order b 9218868437227405311 == some .gt) = (decide (b % 9223372036854775808 = 9218868437227405312) && !neg64 b) := by
  show (Ieee.Format.order Ieee.double b 9218868437227405311 == some .gt) = _
  rcases kinds64 b with h | h | h
  · have hm := fin_max h
    unfold Fin64 at h
    rw [show decide (b % 9223372036854775808 = 9218868437227405312) = false from decide_eq_false (by omega), Bool.false_and, beq_eq_false_iff_ne]
    exact hm
  · rw [inf_max h]
    unfold Inf64 at h
    rw [h]
    cases neg64 b <;> decide
  · rw [order_nan h]
    unfold NaN64 at h
    rw [show decide (b % 9223372036854775808 = 9218868437227405312) = false from decide_eq_false (by omega), Bool.false_and]
    decide
theorem isInf2_at {b : Nat} (hb : b < 18446744073709551616) : (FloatKind.f64.format.order (Op.negFloat .f64 b) 9218868437227405311 == some .gt) = (decide (b % 9223372036854775808 = 9218868437227405312) && neg64 b) := by
  rw [isInf1_at, neg_mod, neg_neg64 hb, Bool.not_not]
theorem isInf0_at {b : Nat} (h : b % 9223372036854775808 < 9218868437227405312) : (FloatKind.f64.format.order (b % 9223372036854775808) 9218868437227405311 == some .gt) = false := by
  rw [isInf1_at, Nat.mod_mod, show decide (b % 9223372036854775808 = 9218868437227405312) = false from decide_eq_false (by omega), Bool.false_and]
end Go.Proofs.YtkkipddgkfidmaaGreatDoor
namespace Go.Proofs.YtkkipddgkfidmaaGreatDoor
open Go.RowKit

/-- What AppendFloat answers. -/
def AppQ (neg : Bool) (hb : Nat) (lq : Int) (mant : Nat) (q : Int) (w : World) (e : Ending) (w' : World) : Prop := ∃ v l, e = .returned v ∧ TxtIs neg hb lq mant q l ∧ Out w.heap.size v l w' ∧ Below w.heap.size w w'

theorem append64 (b : Nat) (hb : b < 18446744073709551616) (hf : Fin64 b) (fmt : Int) (hfmt : fmt = 102 ∨ (fmt = 101 ∧ 0 < mag64 (b % 9223372036854775808))) (w : World) (hT : PTab w.heap.size w) (hU : Lib.TabBelow Tryz.prog w.heap.size w "internal/strconv.uint64pow10" .u64 Lib.pow10Tab) :
    Calls Tryz.prog 33 #[.slice none 0 0, .float .f64 b, .int .u8 fmt, .int .i64 (-1), .int .i64 64] w (AppQ (neg64 b) 4503599627370496 (-1074) (mag64 (b % 9223372036854775808)) (plc64 (b % 9223372036854775808)) w) := by
  have C := Lib.hid (ftoa64 b hb hf fmt hfmt w hT hU)
  unfold AppQ
  generalize TxtIs _ _ _ _ _ = T at C ⊢
  clear hT hU hfmt hf
  go_enter Tryz.func33, Tryz.ntmps33
  go_wp2_with fail
  refine (show Calls Tryz.prog 43 #[.slice none 0 0, .float .f64 b, .int .u8 fmt, .int .i64 (-1), .int .i64 64] w (fun e w' => ∃ v l, e = .returned v ∧ T l ∧ Out w.heap.size v l w' ∧ Below w.heap.size w w') from ?c0).mono ?c1
  case c0 =>
    go_enter Tryz.func43, Tryz.ntmps43
    go_wp2_with fail
    refine C.out.mono ?_
    rintro e w' ⟨v, l, rfl, ht, ho, hbl⟩
    have R1 := Lib.hid ht
    have R2 := Lib.hid ho
    have R3 := Lib.hid hbl
    clear ht ho hbl
    go_wp2
    go_ret
    exact ⟨_, l, rfl, R1.out, R2.out, R3.out⟩
  case c1 =>
    rintro e w' ⟨v, l, rfl, ht, ho, hbl⟩
    have R1 := Lib.hid ht
    have R2 := Lib.hid ho
    have R3 := Lib.hid hbl
    clear ht ho hbl
    go_wp2
    go_ret
    exact ⟨_, l, rfl, R1.out, R2.out, R3.out⟩

theorem append32 (b g : Nat) (hb : g < 4294967296) (hf : Fin32 g) (hcv : ∀ w, (convert 22 23 (.float .f64 b)).run Tryz.prog w = .ok (.float .f32 g) w) (fmt : Int) (hfmt : fmt = 102 ∨ (fmt = 101 ∧ 0 < mag32 (g % 2147483648))) (w : World) (hT : PTab w.heap.size w) (hU : Lib.TabBelow Tryz.prog w.heap.size w "internal/strconv.uint64pow10" .u64 Lib.pow10Tab) :
    Calls Tryz.prog 33 #[.slice none 0 0, .float .f64 b, .int .u8 fmt, .int .i64 (-1), .int .i64 32] w (AppQ (neg32 g) 8388608 (-149) (mag32 (g % 2147483648)) (plc32 (g % 2147483648)) w) := by
  have C := Lib.hid (ftoa32 g hb hf fmt hfmt w hT hU)
  unfold AppQ
  generalize TxtIs _ _ _ _ _ = T at C ⊢
  clear hT hU hfmt hf
  have HCV := Lib.hid hcv
  clear hcv
  go_enter Tryz.func33, Tryz.ntmps33
  go_wp2_with fail
  refine (show Calls Tryz.prog 43 #[.slice none 0 0, .float .f64 b, .int .u8 fmt, .int .i64 (-1), .int .i64 32] w (fun e w' => ∃ v l, e = .returned v ∧ T l ∧ Out w.heap.size v l w' ∧ Below w.heap.size w w') from ?c0).mono ?c1
  case c0 =>
    have hcv := HCV.out
    go_enter Tryz.func43, Tryz.ntmps43
    go_wp2_with fail
    refine C.out.mono ?_
    rintro e w' ⟨v, l, rfl, ht, ho, hbl⟩
    have R1 := Lib.hid ht
    have R2 := Lib.hid ho
    have R3 := Lib.hid hbl
    clear ht ho hbl
    go_wp2
    go_ret
    exact ⟨_, l, rfl, R1.out, R2.out, R3.out⟩
  case c1 =>
    rintro e w' ⟨v, l, rfl, ht, ho, hbl⟩
    have R1 := Lib.hid ht
    have R2 := Lib.hid ho
    have R3 := Lib.hid hbl
    clear ht ho hbl
    go_wp2
    go_ret
    exact ⟨_, l, rfl, R1.out, R2.out, R3.out⟩
end Go.Proofs.YtkkipddgkfidmaaGreatDoor
namespace Go.Proofs.YtkkipddgkfidmaaGreatDoor

def Txt0 (neg : Bool) (hb : Nat) (lq : Int) (mant : Nat) (q : Int) (l : List UInt8) : Prop := ∃ V e I F X, TextOf neg V e I F X l ∧ (mant = 0 → V = 0) ∧ (0 < mant → NearG hb lq mant q V e)

theorem TxtIs.weak {neg : Bool} {hb : Nat} {lq q : Int} {mant : Nat} {l : List UInt8} (h : TxtIs neg hb lq mant q l) : Txt0 neg hb lq mant q l := by
  obtain ⟨V, e, I, F, X, ht, _, h1, h2⟩ := h
  exact ⟨V, e, I, F, X, ht, h1, h2⟩

theorem TextOf.clean {neg : Bool} {V : Nat} {e : Int} {I F : List UInt8} {X : Option (Bool × List UInt8)} {l A : List UInt8} {y : UInt8} (h : TextOf neg V e I F X l) (h2 : ∀ m x, X = some (m, x) → 2 ≤ x.length) (hl : l = A ++ [101, 45, 48, y]) :
    TextOf neg V e I F (some (true, [y])) (A ++ [101, 45, y]) := by
  have hne : ∀ c, digit c → c ≠ 101 := by
    intro c hc e
    subst e
    exact absurd hc.2 (by decide)
  match X, h, h2 with
  | none, h, _ =>
    exfalso
    have hm : (101 : UInt8) ∈ l := by rw [hl]; simp
    rw [h.is] at hm
    simp only [xPart, List.append_nil, List.mem_append] at hm
    rcases hm with (hm | hm) | hm
    · unfold sg at hm
      split at hm
      · simp at hm
      · cases hm
    · exact hne _ (h.dI _ hm) rfl
    · unfold dotted at hm
      split at hm
      · cases hm
      · simp only [List.mem_cons] at hm
        rcases hm with hm | hm
        · exact absurd hm (by decide)
        · exact hne _ (h.dF _ hm) rfl
  | some (m, x), h, h2 =>
    obtain ⟨hx1, hx2, hx3⟩ := h.hX m x rfl
    have hx4 := h2 m x rfl
    have his := h.is
    rw [hl] at his
    simp only [xPart] at his
    have hlen : x.length = 2 ∨ x.length = 3 := by omega
    rcases hlen with hlen | hlen
    · obtain ⟨e1, e2⟩ := List.append_inj' his (by simp [hlen])
      simp only [List.cons.injEq, true_and] at e2
      obtain ⟨e3, e4⟩ := e2
      subst e4
      have hm : m = true := by
        cases m
        · exact absurd e3 (by decide)
        · rfl
      subst hm
      refine ⟨by rw [e1]; rfl, h.dI, h.dF, h.nI, h.lead, h.lI, h.lF, h.lIF, ?_, h.hV, ?_⟩
      · intro m' x' he
        simp only [Option.some.injEq, Prod.mk.injEq] at he
        obtain ⟨_, rfl⟩ := he
        refine ⟨fun c hc => hx1 c ?_, by simp, by simp⟩
        simp only [List.mem_singleton] at hc
        subst hc
        simp
      · rw [h.he]
        rfl
    · exfalso
      have his' : A ++ [101, 45, 48, y] = (sg neg ++ I ++ dotted F ++ [101]) ++ ((if m then 45 else 43) :: x) := by
        rw [his]
        simp
      obtain ⟨_, e2⟩ := List.append_inj' his' (by simp [hlen])
      have := (List.cons.inj e2).1
      cases m
      · exact absurd this (by decide)
      · exact absurd this (by decide)

theorem TxtIs.clean {neg : Bool} {hb : Nat} {lq q : Int} {mant : Nat} {l A : List UInt8} {y : UInt8} (h : TxtIs neg hb lq mant q l) (hl : l = A ++ [101, 45, 48, y]) : Txt0 neg hb lq mant q (A ++ [101, 45, y]) := by
  obtain ⟨V, e, I, F, X, ht, hx, h1, h2⟩ := h
  exact ⟨V, e, I, F, _, ht.clean hx hl, h1, h2⟩

/-- A row's last four bytes. -/
theorem last_four (l : List UInt8) (i : Nat) (h : l.length = i + 4) : l = l.take i ++ [l[i]'(by omega), l[i + 1]'(by omega), l[i + 2]'(by omega), l[i + 3]'(by omega)] := by
  have e : l.drop i = [l[i]'(by omega), l[i + 1]'(by omega), l[i + 2]'(by omega), l[i + 3]'(by omega)] := by
    rw [List.drop_eq_getElem_cons (by omega), List.drop_eq_getElem_cons (by omega), List.drop_eq_getElem_cons (by omega), List.drop_eq_getElem_cons (by omega), List.drop_of_length_le (by omega)]
  rw [← e, List.take_append_drop]
end Go.Proofs.YtkkipddgkfidmaaGreatDoor
