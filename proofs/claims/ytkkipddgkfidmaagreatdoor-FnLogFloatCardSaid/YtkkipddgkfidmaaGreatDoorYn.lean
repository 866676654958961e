/- The contracts of ftoa64 and ftoa32 at nought. No conditions beyond each theorem's own. The contracts of ftoa64 and ftoa32 at any number: the text says a number that the float is nearest to. No conditions beyond each theorem's own. -/
import Derived.Test.YtkkipddgkfidmaaGreatDoorYg
import Derived.Test.YtkkipddgkfidmaaGreatDoorYm
import Derived.Test.YtkkipddgkfidmaaGreatDoorYf
import Derived.Test.YtkkipddgkfidmaaGreatDoorYh
namespace Go.Proofs.YtkkipddgkfidmaaGreatDoor
open Go.RowKit

set_option maxRecDepth 100000 in
set_option maxHeartbeats 8000000 in
theorem fftoa64Z (b : Nat) (neg : Bool) (hneg : ((b : Int) / 9223372036854775808 != 0) = neg) (hex : bits BinOp.and IntKind.i64 (wrap64 ((b : Int) / 4503599627370496)) 2047 = 0) (hmn : bits BinOp.and IntKind.u64 (b : Int) 4503599627370495 = 0) (w : World) :
    Calls Tryz.prog 51 #[.slice none 0 0, .float .f64 b, .int .u8 102, .int .i64 (-1)] w fun e w' => ∃ v, e = .returned v ∧ Out w.heap.size v (sg neg ++ [48]) w' ∧ Below w.heap.size w w' := by
  have h59 := run59 b
  go_enter Tryz.func51, Tryz.ntmps51
  go_wp2
  go_quiet (fail)
  go_wp2_with fail
  refine (fmtZ neg (w.drewN nq)).mono ?_
  rintro e w' ⟨v, rfl, ho, hb⟩
  have R1 := Lib.hid ho
  have R2 := Lib.hid ((below_drewN w.heap.size w nq).trans hb)
  clear ho hb
  go_wp2
  go_ret
  exact ⟨_, rfl, R1.out, R2.out⟩

set_option maxRecDepth 100000 in
set_option maxHeartbeats 8000000 in
theorem fftoa32Z (b : Nat) (neg : Bool) (hbw : IntKind.u64.wrap (b : Int) = (b : Int)) (hneg : ((b : Int) / 2147483648 != 0) = neg) (hex : bits BinOp.and IntKind.i64 (wrap64 ((b : Int) / 8388608)) 255 = 0) (hmn : bits BinOp.and IntKind.u64 (b : Int) 8388607 = 0) (w : World) :
    Calls Tryz.prog 50 #[.slice none 0 0, .float .f32 b, .int .u8 102, .int .i64 (-1)] w fun e w' => ∃ v, e = .returned v ∧ Out w.heap.size v (sg neg ++ [48]) w' ∧ Below w.heap.size w w' := by
  have h58 := run58 b
  go_enter Tryz.func50, Tryz.ntmps50
  go_wp2
  go_quiet (fail)
  go_wp2_with fail
  refine (fmtZ neg (w.drewN nq)).mono ?_
  rintro e w' ⟨v, rfl, ho, hb⟩
  have R1 := Lib.hid ho
  have R2 := Lib.hid ((below_drewN w.heap.size w nq).trans hb)
  clear ho hb
  go_wp2
  go_ret
  exact ⟨_, rfl, R1.out, R2.out⟩
end Go.Proofs.YtkkipddgkfidmaaGreatDoor
namespace Go.Proofs.YtkkipddgkfidmaaGreatDoor
open Go.RowKit

/-- What FloatNear will ask of a float mant 2^q: hb is the least mantissa of a usual float, lq the least place. -/
def NearG (hb : Nat) (lq : Int) (mant : Nat) (q : Int) (V : Nat) (e : Int) : Prop := if mant = hb ∧ lq < q then Near V e (4 * mant - 1) (q - 2) mant q else Near V e (2 * mant - 1) (q - 1) mant q

/-- The text is a number's, and the float is the nearest to it. -/
def TxtIs (neg : Bool) (hb : Nat) (lq : Int) (mant : Nat) (q : Int) (l : List UInt8) : Prop := ∃ V e I F X, TextOf neg V e I F X l ∧ (∀ m x, X = some (m, x) → 2 ≤ x.length) ∧ (mant = 0 → V = 0) ∧ (0 < mant → NearG hb lq mant q V e)

theorem near_of_ans {hb : Nat} {lq q p : Int} {mant u k : Nat} (z : Nat) (hbe : hb % 2 = 0) (hA : Ans hb lq mant q u p) (hk : k ≤ Lib.nDigits u) (hz : ∀ j (h : j < (Lib.decDigits u).length), k ≤ j → (Lib.decDigits u)[j] = 48) :
    NearG hb lq mant q (valD ((Lib.decDigits u).take k) * 10 ^ z) ((Lib.nDigits u : Int) + p - k - z) := by
  obtain ⟨r, p0, hu, hp, hG⟩ := hA
  have hlen := Lib.decDigits_length u
  have hv := valD_take (Lib.decDigits u) k (by omega) hz
  rw [(valD_dec u).1, hlen] at hv
  have hS : Same (valD ((Lib.decDigits u).take k) * 10 ^ z) ((Lib.nDigits u : Int) + p - k - z) (full r) p0 := by
    cases h2 : r.2
    · have hf : full r = valD ((Lib.decDigits u).take k) * 10 ^ (Lib.nDigits u - k) := by
        unfold full
        rw [h2, ← hu]
        exact hv
      rw [hf]
      rw [h2] at hp
      refine same_of _ _ _ _ _ ?_
      simp only [Bool.false_eq_true, if_false] at hp
      omega
    · have hf : full r = valD ((Lib.decDigits u).take k) * 10 ^ (Lib.nDigits u - k + 1) := by
        unfold full
        rw [h2, ← hu, Nat.pow_succ, ← Nat.mul_assoc, ← hv]
        simp only [if_true]
        omega
      rw [hf]
      rw [h2] at hp
      refine same_of _ _ _ _ _ ?_
      simp only [if_true] at hp
      omega
  unfold Good at hG
  unfold NearG
  split
  · rename_i h
    rw [if_pos h] at hG
    exact near_of_pow hG (by rw [h.1]; exact hbe) hS
  · rename_i h
    rw [if_neg h] at hG
    exact near_of_within hG hS

theorem txt_f {hb : Nat} {lq q p : Int} {mant u k : Nat} {neg : Bool} (hbe : hb % 2 = 0) (hm : 0 < mant) (hA : Ans hb lq mant q u p) (hu0 : 0 < u) (hu1 : u < 100000000000000000) (hp0 : -400 ≤ p) (hp1 : p ≤ 400) (hk0 : 0 < k) (hk : k ≤ Lib.nDigits u) (hz : ∀ j (h : j < (Lib.decDigits u).length), k ≤ j → (Lib.decDigits u)[j] = 48) :
    TxtIs neg hb lq mant q (fText neg ((Lib.nDigits u : Int) + p) ((Lib.decDigits u).take k)) ∧ TxtIs neg hb lq mant q (eText neg ((Lib.nDigits u : Int) + p) ((Lib.decDigits u).take k)) := by
  have hlen := Lib.decDigits_length u
  have hN : Lib.nDigits u ≤ 18 := nD_le 18 u (by omega) (by decide)
  have hDl : ((Lib.decDigits u).take k).length = k := by rw [List.length_take]; omega
  have hdd : digits ((Lib.decDigits u).take k) := digits_take (valD_dec u).2 k
  refine ⟨?_, ?_⟩
  · have hhd : ∀ c ∈ ((Lib.decDigits u).take k).head?, 49 ≤ c.toNat := by
      obtain ⟨c, l, hcl, hc9⟩ := dec_head u hu0
      intro c' hc'
      obtain ⟨n, rfl⟩ : ∃ n, k = n + 1 := ⟨k - 1, by omega⟩
      rw [hcl] at hc'
      simp at hc'
      subst hc'
      exact hc9
    obtain ⟨z, ht⟩ := text_f neg ((Lib.nDigits u : Int) + p) _ hdd (by omega) (by omega) (by omega) (by omega) hhd
    rw [hDl] at ht
    exact ⟨_, _, _, _, _, ht, (fun m x h => by cases h), fun h => absurd h (by omega), fun _ => near_of_ans z hbe hA hk hz⟩
  · have ht := text_e neg ((Lib.nDigits u : Int) + p) _ hdd (by omega) (by omega) (by omega) (by omega)
    rw [hDl] at ht
    refine ⟨_, _, _, _, _, ht, ?_, fun h => absurd h (by omega), fun _ => ?_⟩
    · intro m x h
      simp only [Option.some.injEq, Prod.mk.injEq] at h
      obtain ⟨_, rfl⟩ := h
      unfold expo
      split
      · simp
      · split <;> simp
    · have := near_of_ans 0 hbe hA hk hz
      simpa using this

theorem txt_zero (neg : Bool) (hb : Nat) (lq q : Int) : TxtIs neg hb lq 0 q (sg neg ++ [48]) :=
  ⟨0, 0, _, _, _, text_zero neg, (fun m x h => by cases h), fun _ => rfl, fun h => absurd h (by decide)⟩

theorem shl_wrap {mant sh : Nat} (h0 : 0 < mant) (h1 : mant < 18446744073709551616) (hsh : (64 : Int) - (Lib.bitLen mant : Int) = (sh : Int)) : IntKind.u64.wrap ((mant : Int) * 2 ^ sh) = ((mant * 2 ^ sh : Nat) : Int) := by
  obtain ⟨a, b, c, d⟩ := bitLen_at h0 h1
  have h3 : mant * 2 ^ sh < 2 ^ Lib.bitLen mant * 2 ^ sh := Nat.mul_lt_mul_of_pos_right c (Nat.two_pow_pos sh)
  rw [← Nat.pow_add, show Lib.bitLen mant + sh = 64 by omega] at h3
  have e : ((mant : Int) * 2 ^ sh) = ((mant * 2 ^ sh : Nat) : Int) := by simp
  rw [e, wrapU]
  have h4 : mant * 2 ^ sh < 18446744073709551616 := h3
  clear h3 e
  omega

theorem parts64 (b : Nat) (hb : b < 18446744073709551616) : ((b : Int) / 9223372036854775808 != 0) = neg64 b ∧ bits BinOp.and IntKind.i64 (wrap64 ((b : Int) / 4503599627370496)) 2047 = ((b % 9223372036854775808 / 4503599627370496 : Nat) : Int) ∧ bits BinOp.and IntKind.u64 (b : Int) 4503599627370495 = ((b % 4503599627370496 : Nat) : Int) := by
  refine ⟨?_, ?_, ?_⟩
  · unfold neg64
    rw [Bool.eq_iff_iff, bne_iff_ne, beq_iff_eq]
    omega
  · have e : wrap64 ((b : Int) / 4503599627370496) = ((b / 4503599627370496 : Nat) : Int) := by unfold wrap64; omega
    have := and_i64 (b / 4503599627370496) 11 (by omega) (by decide)
    rw [e]
    refine this.trans ?_
    congr 1
    omega
  · exact and_u64 b 52 hb (by decide)

theorem ftoa64 (b : Nat) (hb : b < 18446744073709551616) (hf : Fin64 b) (fmt : Int) (hfmt : fmt = 102 ∨ (fmt = 101 ∧ 0 < mag64 (b % 9223372036854775808))) (w : World) (hT : PTab w.heap.size w) (hU : Lib.TabBelow Tryz.prog w.heap.size w "internal/strconv.uint64pow10" .u64 Lib.pow10Tab) :
    Calls Tryz.prog 51 #[.slice none 0 0, .float .f64 b, .int .u8 fmt, .int .i64 (-1)] w fun e w' => ∃ v l, e = .returned v ∧ TxtIs (neg64 b) 4503599627370496 (-1074) (mag64 (b % 9223372036854775808)) (plc64 (b % 9223372036854775808)) l ∧ Out w.heap.size v l w' ∧ Below w.heap.size w w' := by
  obtain ⟨n1, n2, n3⟩ := parts64 b hb
  have hmn : b % 4503599627370496 = b % 9223372036854775808 % 4503599627370496 := by omega
  rw [hmn] at n3
  unfold Fin64 at hf
  generalize b % 9223372036854775808 = r at *
  by_cases hz : mag64 r = 0
  · have hr : r = 0 := by
      unfold mag64 at hz
      split at hz <;> omega
    have h102 : fmt = 102 := by
      rcases hfmt with h | ⟨_, h⟩
      · exact h
      · omega
    subst h102
    subst hr
    refine (fftoa64Z b (neg64 b) n1 n2 n3 w).mono ?_
    rintro e w' ⟨v, he, ho, hbl⟩
    rw [hz]
    exact ⟨v, _, he, txt_zero _ _ _ _, ho, hbl⟩
  · have hm0 : 0 < mag64 r := by omega
    have hm1 := mag64_lt r
    have hpl := plc64_le hf
    obtain ⟨a0, a1, a2, a3⟩ := bitLen_at hm0 (show mag64 r < 18446744073709551616 by omega)
    obtain ⟨sh, hsh⟩ : ∃ sh : Nat, (64 : Int) - (Lib.bitLen (mag64 r) : Int) = (sh : Int) := ⟨64 - Lib.bitLen (mag64 r), by omega⟩
    have hM := shl_wrap hm0 (by omega) hsh
    have hcase : (r / 4503599627370496 = 0 ∧ plc64 r + 1075 = 1 ∧ mag64 r = r % 4503599627370496) ∨ (0 < r / 4503599627370496 ∧ plc64 r + 1075 = ((r / 4503599627370496 : Nat) : Int) ∧ bits BinOp.or IntKind.u64 ((r % 4503599627370496 : Nat) : Int) 4503599627370496 = (mag64 r : Int)) := by
      by_cases h : r < 4503599627370496
      · refine .inl ⟨by omega, ?_, ?_⟩
        · unfold plc64; rw [if_pos h]; rfl
        · unfold mag64; rw [if_pos h]; omega
      · refine .inr ⟨by omega, ?_, ?_⟩
        · unfold plc64; rw [if_neg h]; omega
        · have := or_u64 (r % 4503599627370496) 52 (by omega) (by decide)
          unfold mag64
          rw [if_neg h]
          exact this
    have hn : 4503599627370496 ≤ mag64 r ∨ plc64 r = -1074 := by
      unfold mag64 plc64
      split
      · exact .inr rfl
      · exact .inl (by omega)
    have hS : ∀ w', PTab w'.heap.size w' → _ := fun w' h => sf64 (mag64 r) sh (mag64 r * 2 ^ sh) (plc64 r) (plc64 r - sh) hm0 hm1 hpl.1 hpl.2 hn hsh rfl rfl w' h
    have hE : plc64 r + 1075 + -1023 - (sh : Int) - 52 = plc64 r - sh := by omega
    have hx0 : 1 ≤ plc64 r + 1075 := by omega
    have hx1 : plc64 r + 1075 ≤ 2046 := by omega
    have hex : r / 4503599627370496 < 2047 := by omega
    have hmi : (mag64 r : Int) ≤ 18446744073709551615 := by omega
    have hs64 : sh < 64 := by omega
    rcases hfmt with rfl | ⟨rfl, _⟩
    · refine (fftoa64F (Ans 4503599627370496 (-1074) (mag64 r) (plc64 r)) b (neg64 b) (r / 4503599627370496) (r % 4503599627370496) (mag64 r) sh (mag64 r * 2 ^ sh) (plc64 r + 1075) (plc64 r - sh) n1 n2 n3 hex hcase hm0 hmi hsh hs64 hx0 hx1 hM hE hS w hT hU).mono ?_
      rintro e w' ⟨v, u, p, k, he, hA, hu0, hu1, hp0, hp1, hk0, hk, hz, ho, hbl⟩
      exact ⟨v, _, he, (txt_f (by decide) hm0 hA hu0 hu1 hp0 hp1 hk0 hk hz).1, ho, hbl⟩
    · refine (fftoa64E (Ans 4503599627370496 (-1074) (mag64 r) (plc64 r)) b (neg64 b) (r / 4503599627370496) (r % 4503599627370496) (mag64 r) sh (mag64 r * 2 ^ sh) (plc64 r + 1075) (plc64 r - sh) n1 n2 n3 hex hcase hm0 hmi hsh hs64 hx0 hx1 hM hE hS w hT hU).mono ?_
      rintro e w' ⟨v, u, p, k, he, hA, hu0, hu1, hp0, hp1, hk0, hk, hz, ho, hbl⟩
      exact ⟨v, _, he, (txt_f (by decide) hm0 hA hu0 hu1 hp0 hp1 hk0 hk hz).2, ho, hbl⟩

theorem mag32_lt (r : Nat) : mag32 r < 16777216 := by
  unfold mag32
  split <;> omega
theorem plc32_le {r : Nat} (h : r < 2139095040) : -149 ≤ plc32 r ∧ plc32 r ≤ 104 := by
  unfold plc32
  split <;> omega
theorem wrap32b {b : Nat} (hb : b < 4294967296) : IntKind.u64.wrap (b : Int) = (b : Int) := by
  rw [wrapU]
  omega

theorem parts32 (b : Nat) (hb : b < 4294967296) : ((b : Int) / 2147483648 != 0) = neg32 b ∧ bits BinOp.and IntKind.i64 (wrap64 ((b : Int) / 8388608)) 255 = ((b % 2147483648 / 8388608 : Nat) : Int) ∧ bits BinOp.and IntKind.u64 (b : Int) 8388607 = ((b % 8388608 : Nat) : Int) := by
  refine ⟨?_, ?_, ?_⟩
  · unfold neg32
    rw [Bool.eq_iff_iff, bne_iff_ne, beq_iff_eq]
    omega
  · have e : wrap64 ((b : Int) / 8388608) = ((b / 8388608 : Nat) : Int) := by unfold wrap64; omega
    have := and_i64 (b / 8388608) 8 (by omega) (by decide)
    rw [e]
    refine this.trans ?_
    congr 1
    omega
  · exact and_u64 b 23 (by omega) (by decide)

theorem ftoa32 (b : Nat) (hb : b < 4294967296) (hf : Fin32 b) (fmt : Int) (hfmt : fmt = 102 ∨ (fmt = 101 ∧ 0 < mag32 (b % 2147483648))) (w : World) (hT : PTab w.heap.size w) (hU : Lib.TabBelow Tryz.prog w.heap.size w "internal/strconv.uint64pow10" .u64 Lib.pow10Tab) :
    Calls Tryz.prog 50 #[.slice none 0 0, .float .f32 b, .int .u8 fmt, .int .i64 (-1)] w fun e w' => ∃ v l, e = .returned v ∧ TxtIs (neg32 b) 8388608 (-149) (mag32 (b % 2147483648)) (plc32 (b % 2147483648)) l ∧ Out w.heap.size v l w' ∧ Below w.heap.size w w' := by
  obtain ⟨n1, n2, n3⟩ := parts32 b hb
  have hmn : b % 8388608 = b % 2147483648 % 8388608 := by omega
  rw [hmn] at n3
  unfold Fin32 at hf
  generalize b % 2147483648 = r at *
  by_cases hz : mag32 r = 0
  · have hr : r = 0 := by
      unfold mag32 at hz
      split at hz <;> omega
    have h102 : fmt = 102 := by
      rcases hfmt with h | ⟨_, h⟩
      · exact h
      · omega
    subst h102
    subst hr
    refine (fftoa32Z b (neg32 b) (wrap32b hb) n1 n2 n3 w).mono ?_
    rintro e w' ⟨v, he, ho, hbl⟩
    rw [hz]
    exact ⟨v, _, he, txt_zero _ _ _ _, ho, hbl⟩
  · have hm0 : 0 < mag32 r := by omega
    have hm1 := mag32_lt r
    have hpl := plc32_le hf
    obtain ⟨a0, a1, a2, a3⟩ := bitLen_at hm0 (show mag32 r < 18446744073709551616 by omega)
    obtain ⟨sh, hsh⟩ : ∃ sh : Nat, (64 : Int) - (Lib.bitLen (mag32 r) : Int) = (sh : Int) := ⟨64 - Lib.bitLen (mag32 r), by omega⟩
    have hM := shl_wrap hm0 (by omega) hsh
    have hcase : (r / 8388608 = 0 ∧ plc32 r + 150 = 1 ∧ mag32 r = r % 8388608) ∨ (0 < r / 8388608 ∧ plc32 r + 150 = ((r / 8388608 : Nat) : Int) ∧ bits BinOp.or IntKind.u64 ((r % 8388608 : Nat) : Int) 8388608 = (mag32 r : Int)) := by
      by_cases h : r < 8388608
      · refine .inl ⟨by omega, ?_, ?_⟩
        · unfold plc32; rw [if_pos h]; rfl
        · unfold mag32; rw [if_pos h]; omega
      · refine .inr ⟨by omega, ?_, ?_⟩
        · unfold plc32; rw [if_neg h]; omega
        · have := or_u64 (r % 8388608) 23 (by omega) (by decide)
          unfold mag32
          rw [if_neg h]
          exact this
    have hn : 8388608 ≤ mag32 r ∨ plc32 r = -149 := by
      unfold mag32 plc32
      split
      · exact .inr rfl
      · exact .inl (by omega)
    have hS : ∀ w', PTab w'.heap.size w' → _ := fun w' h => sf32 (mag32 r) sh (mag32 r * 2 ^ sh) (plc32 r) (plc32 r - sh) hm0 hm1 hpl.1 hpl.2 hn hsh rfl rfl w' h
    have hE : plc32 r + 150 + -127 - (sh : Int) - 23 = plc32 r - sh := by omega
    have hx0 : 1 ≤ plc32 r + 150 := by omega
    have hx1 : plc32 r + 150 ≤ 254 := by omega
    have hex : r / 8388608 < 255 := by omega
    have hmi : (mag32 r : Int) ≤ 18446744073709551615 := by omega
    have hs64 : sh < 64 := by omega
    rcases hfmt with rfl | ⟨rfl, _⟩
    · refine (fftoa32F (Ans 8388608 (-149) (mag32 r) (plc32 r)) b (neg32 b) (r / 8388608) (r % 8388608) (mag32 r) sh (mag32 r * 2 ^ sh) (plc32 r + 150) (plc32 r - sh) (wrap32b hb) n1 n2 n3 hex hcase hm0 hmi hsh hs64 hx0 hx1 hM hE hS w hT hU).mono ?_
      rintro e w' ⟨v, u, p, k, he, hA, hu0, hu1, hp0, hp1, hk0, hk, hz, ho, hbl⟩
      exact ⟨v, _, he, (txt_f (by decide) hm0 hA hu0 hu1 hp0 hp1 hk0 hk hz).1, ho, hbl⟩
    · refine (fftoa32E (Ans 8388608 (-149) (mag32 r) (plc32 r)) b (neg32 b) (r / 8388608) (r % 8388608) (mag32 r) sh (mag32 r * 2 ^ sh) (plc32 r + 150) (plc32 r - sh) (wrap32b hb) n1 n2 n3 hex hcase hm0 hmi hsh hs64 hx0 hx1 hM hE hS w hT hU).mono ?_
      rintro e w' ⟨v, u, p, k, he, hA, hu0, hu1, hp0, hp1, hk0, hk, hz, ho, hbl⟩
      exact ⟨v, _, he, (txt_f (by decide) hm0 hA hu0 hu1 hp0 hp1 hk0 hk hz).2, ho, hbl⟩
end Go.Proofs.YtkkipddgkfidmaaGreatDoor
