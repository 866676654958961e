/- The contract of FloatNear, at both widths: a decimal in the float's interval is near. No conditions beyond each theorem's own. -/
import Derived.Test.YtkkipddgkfidmaaGreatDoorKe
import Derived.Test.YtkkipddgkfidmaaGreatDoorYw
namespace Go.Proofs.YtkkipddgkfidmaaGreatDoor
open Go.RowKit

theorem exp_small {neg : Bool} {V : Nat} {e : Int} {I F : List UInt8} {X : Option (Bool × List UInt8)} {l : List UInt8} (h : TextOf neg V e I F X l) : -2000 ≤ e ∧ e ≤ 2000 := by
  have h1 := h.lF
  have h2 := h.he
  match X, h.hX, h2 with
  | none, _, h2 => simp only [xVal] at h2; omega
  | some (m, x), hX, h2 =>
    obtain ⟨a, _, c⟩ := hX m x rfl
    have h3 := valD_small a x.length (Nat.le_refl _)
    rw [List.take_of_length_le (Nat.le_refl _)] at h3
    have h4 : 10 ^ x.length ≤ 10 ^ 3 := Nat.pow_le_pow_right (by decide) c
    simp only [xVal] at h2
    cases m
    · simp only [Bool.false_eq_true, if_false] at h2; omega
    · simp only [if_true] at h2; omega

theorem exp64 (b : Nat) (hb : b < 18446744073709551616) : bits BinOp.and IntKind.u64 ((b : Int) / 4503599627370496) 2047 = ((b % 9223372036854775808 / 4503599627370496 : Nat) : Int) := by
  have h := and_u64 (b / 4503599627370496) 11 (by omega) (by decide)
  have e : ((b : Int) / 4503599627370496) = ((b / 4503599627370496 : Nat) : Int) := by omega
  rw [e]
  refine h.trans ?_
  congr 1
  omega

theorem and1u (u : Nat) (h : u < 18446744073709551616) : bits .and .u64 (u : Int) 1 = ((u % 2 : Nat) : Int) := and_u64 u 1 h (by decide)
theorem pow_even (m a : Nat) : m * 2 ^ (a + 1) % 2 = 0 := by
  rw [Nat.pow_succ, ← Nat.mul_assoc, Nat.mul_mod_left]
theorem pow_half (m a : Nat) : m * 2 ^ (a + 1) / 2 = m * 2 ^ a := by
  rw [Nat.pow_succ, ← Nat.mul_assoc, Nat.mul_div_cancel _ (by decide)]

theorem cmp_zero (e k : Int) : cmpI (sideX 0 e k) (sideY 1 e k) = -1 := by
  unfold cmpI sideX sideY
  rw [Nat.zero_mul, Nat.zero_mul, Nat.one_mul]
  exact if_pos (Nat.mul_pos (Nat.pow_pos (by decide)) (Nat.two_pow_pos _))

/-- The parts of a word, as FloatNear takes them. -/
theorem near_parts (b : Nat) (hb : b < 18446744073709551616) (hF : Fin64 b) : ∃ ex mn : Nat, bits BinOp.and IntKind.u64 (b : Int) 4503599627370495 = (mn : Int) ∧ bits BinOp.and IntKind.u64 ((b : Int) / 4503599627370496) 2047 = (ex : Int) ∧ ex < 2047 ∧ mn < 4503599627370496 ∧ ((ex = 0 ∧ mag64 (b % 9223372036854775808) = mn ∧ plc64 (b % 9223372036854775808) = -1074) ∨ (0 < ex ∧ bits BinOp.or IntKind.u64 (mn : Int) 4503599627370496 = (mag64 (b % 9223372036854775808) : Int) ∧ plc64 (b % 9223372036854775808) = (ex : Int) - 1075)) := by
  have h1 := and_u64 b 52 hb (by decide)
  have h2 := exp64 b hb
  unfold Fin64 at hF
  refine ⟨b % 9223372036854775808 / 4503599627370496, b % 4503599627370496, h1, h2, by omega, Nat.mod_lt _ (by decide), ?_⟩
  have h3 : b % 4503599627370496 = b % 9223372036854775808 % 4503599627370496 := by omega
  rw [h3]
  generalize b % 9223372036854775808 = r at *
  by_cases h : r < 4503599627370496
  · refine .inl ⟨by omega, ?_, ?_⟩
    · unfold mag64; rw [if_pos h]; omega
    · unfold plc64; rw [if_pos h]
  · refine .inr ⟨by omega, ?_, ?_⟩
    · have := or_u64 (r % 4503599627370496) 52 (by omega) (by decide)
      unfold mag64
      rw [if_neg h]
      exact this
    · unfold plc64; rw [if_neg h]; omega

set_option maxRecDepth 100000 in
set_option maxHeartbeats 8000000 in
theorem fnear64 (neg : Bool) (V : Nat) (e : Int) (I F : List UInt8) (X : Option (Bool × List UInt8)) (l : List UInt8) (s : ByteArray) (hs : s.data.toList = l) (hT : TextOf neg V e I F X l) (b : Nat) (hb : b < 18446744073709551616) (hF : Fin64 b) (hneg : neg64 b = neg)
    (m j : Nat) (k : Int) (hmag : mag64 (b % 9223372036854775808) = m * 2 ^ j) (hplc : plc64 (b % 9223372036854775808) = k - j) (hm0 : 0 < m) (hm1 : m < 9007199254740992) (hk0 : -1074 ≤ k) (hk1 : k ≤ 971) (hn : 4503599627370496 ≤ m ∨ k = -1074) (hj : j ≤ 52) (hnear : NearG 4503599627370496 (-1074) m k V e) (w : World) :
    Calls Tryz.prog 7 #[.string s, .float .f64 b, .bool false] w fun r w' => r = .returned (.bool true) ∧ Below w.heap.size w w' := by
  have he := exp_small hT
  obtain ⟨ex, mn, p1, p2, p3, p4, p5⟩ := near_parts b hb hF
  have hmb := mag64_lt (b % 9223372036854775808)
  rw [hmag] at hmb p5
  rw [hplc] at p5
  have C14 := Lib.hid (fdecimal neg V e I F X l s hs hT w)
  obtain ⟨i1, i2, i3⟩ := fin_facts hb hF
  have C15 := Lib.hid (fun w => fisNaN b false i1 w)
  have C16 := Lib.hid (fun w => fisInf0 b hb false (isInf0_at hF) w)
  have C17 := Lib.hid (fun w => by have := fsignbit b w; rw [hneg] at this; exact this)
  have h18 := run18 b
  have P5 := Lib.hid p5
  have HNE := Lib.hid hnear
  have HN := Lib.hid hn
  have HE := Lib.hid he
  have HMB := Lib.hid hmb
  have HM1 := Lib.hid hm1
  clear hT hs hF hneg hmag hplc hb i1 i2 i3 p5 hnear hn he hmb hm1
  go_enter Tryz.func7, Tryz.ntmps7
  go_wp2_with fail
  refine C14.out.mono ?_
  rintro r w1 ⟨vd, M, rfl, h1, h2, h3, h4⟩
  have D1 := Lib.hid h1
  have D2 := Lib.hid h2
  have D3 := Lib.hid h3
  have D4 := Lib.hid h4
  clear h1 h2 h3 h4
  go_wp2_with fail
  refine (C15.out w1).mono ?_
  rintro r w2 ⟨rfl, rfl⟩
  go_wp2_with fail
  refine (C16.out w1).mono ?_
  rintro r w2 ⟨rfl, rfl⟩
  go_wp2_with fail
  refine (C17.out w1).mono ?_
  rintro r w2 ⟨rfl, rfl⟩
  have hnn : (neg != neg) = false := by simp
  go_upto_if 56 with (fail)
  go_cut [14, 16] from 57 to 58 (fun s14 s16 wx => s14 = .int .u64 ((m * 2 ^ j : Nat) : Int) ∧ s16 = .int .i64 (k - (j : Int)) ∧ wx = w1)
  case first =>
    rcases P5.out with ⟨rfl, q2, q3⟩ | ⟨q1, q2, q3⟩
    · go_wp2
      go_meet
      exact ⟨by rw [q2], by rw [q3], rfl⟩
    · have hne : ((ex : Int) == 0) = false := by rw [beq_eq_false_iff_ne]; omega
      have Q3 := Lib.hid q3
      have Q2 := Lib.hid q2
      clear q3
      go_wp2
      go_meet
      exact ⟨by first | rfl | rw [Q2.out], by rw [Q3.out], rfl⟩
  case rest =>
    obtain ⟨rfl, rfl, rfl⟩ := hcut
    clear h18 p1 p2
    go_upto_block 0 with (fail)
    go_cut [14, 16] from 60 to 79 (fun s14 s16 wx => s14 = .int .u64 (m : Int) ∧ s16 = .int .i64 k ∧ wx = wc)
    case first =>
      go_wp2_with fail
      go_loopg [14, 16] j (fun gg s14 s16 wr => gg ≤ j ∧ s14 = .int .u64 ((m * 2 ^ gg : Nat) : Int) ∧ s16 = .int .i64 (k - (gg : Int)) ∧ wr = wc)
      case atStart => exact ⟨Nat.le_refl _, rfl, rfl, rfl⟩
      case round =>
        obtain ⟨hgj, rfl, rfl, hwr⟩ := hrel
        subst hwr
        obtain ⟨T, hT⟩ : ∃ T, m * 2 ^ gk = T := ⟨_, rfl⟩
        have hT0 : 0 < T := by rw [← hT]; exact Nat.mul_pos hm0 (Nat.two_pow_pos _)
        have hTb : T < 9007199254740992 := by
          have h1 : m * 2 ^ gk ≤ m * 2 ^ j := Nat.mul_le_mul_left _ (Nat.pow_le_pow_right (by decide) hgj)
          have h2 := HMB.out
          omega
        rw [hT]
        have hTne : ((T : Int) != 0) = true := by rw [bne_iff_ne]; omega
        rcases Nat.eq_zero_or_pos gk with h0 | h0
        · have HT0 := Lib.hid (show T = m by rw [← hT, h0, Nat.pow_zero, Nat.mul_one])
          have t1 : ¬ (T : Int) ≥ 9007199254740992 := by have := HT0.out; have := HM1.out; omega
          have t1b : decide ((T : Int) ≥ 9007199254740992) = false := decide_eq_false t1
          have t2 : ¬ (k - (gk : Int)) < -1074 := by omega
          have t2b : decide ((k - (gk : Int)) < -1074) = false := decide_eq_false t2
          have HG0 := Lib.hid h0
          clear h0 hT
          go_wp2_with fail
          go_meet
          exact ⟨by rw [HT0.out], by rw [HG0.out]; simp, rfl⟩
        · obtain ⟨a, rfl⟩ : ∃ a, gk = a + 1 := ⟨gk - 1, by omega⟩
          have heven := pow_even m a
          have hhalf := pow_half m a
          rw [hT] at heven hhalf
          have hand : bits .and .u64 (T : Int) 1 = 0 := by
            rw [and1u T (by omega), heven]
            rfl
          have HT2 := Lib.hid hT
          have HHF := Lib.hid hhalf
          obtain ⟨K, hK⟩ : ∃ K : Int, k - ((a + 1 : Nat) : Int) = K := ⟨_, rfl⟩
          rw [hK]
          have HKK := Lib.hid hK
          have hK1 : -2000 ≤ K := by omega
          have hK2 : K ≤ 2000 := by omega
          by_cases hc : (T : Int) ≥ 9007199254740992
          · have t1 : decide ((T : Int) ≥ 9007199254740992) = true := decide_eq_true hc
            clear hT heven hhalf hK
            go_wp2_with fail
            go_roundg a
            case measure => omega
            case rel => exact ⟨by omega, by rw [← HHF.out]; first | rfl | (congr 1; omega), by have := HKK.out; congr 1; omega, rfl⟩
          · have t1 : decide ((T : Int) ≥ 9007199254740992) = false := decide_eq_false hc
            have hks : K < -1074 := by
              rcases HN.out with h | h
              · exfalso
                have : m * 2 ^ 1 ≤ m * 2 ^ (a + 1) := Nat.mul_le_mul_left _ (Nat.pow_le_pow_right (by decide) (by omega))
                omega
              · omega
            clear hT heven hhalf hK
            go_wp2_with fail
            go_roundg a
            case measure => omega
            case rel => exact ⟨by omega, by rw [← HHF.out]; first | rfl | (congr 1; omega), by have := HKK.out; congr 1; omega, rfl⟩
    case rest =>
      obtain ⟨rfl, rfl, rfl⟩ := hcut
      have hm1 := HM1.out
      have hmne : ((m : Int) != 0) = true := by rw [bne_iff_ne]; omega
      have hmne2 : ((m : Int) == 0) = false := by rw [beq_eq_false_iff_ne]; omega
      go_upto_block 2 with (fail)
      go_cut [14, 16] from 80 to 97 (fun s14 s16 wx => s14 = .int .u64 (m : Int) ∧ s16 = .int .i64 k ∧ wx = wc)
      case first =>
        go_wp2_with fail
        go_loopg [14, 16] 0 (fun gg s14 s16 wr => s14 = .int .u64 (m : Int) ∧ s16 = .int .i64 k ∧ wr = wc)
        case atStart => exact ⟨rfl, rfl, rfl⟩
        case round =>
          obtain ⟨rfl, rfl, hwr⟩ := hrel
          subst hwr
          by_cases hc : (m : Int) < 4503599627370496
          · have t1 : decide ((m : Int) < 4503599627370496) = true := decide_eq_true hc
            have hk : ¬ k > -1074 := by
              rcases HN.out with h | h
              · omega
              · omega
            have hkb : decide (k > -1074) = false := decide_eq_false hk
            go_wp2_with fail
            go_meet
            exact ⟨rfl, rfl, rfl⟩
          · have t1 : decide ((m : Int) < 4503599627370496) = false := decide_eq_false hc
            go_wp2_with fail
            go_meet
            exact ⟨rfl, rfl, rfl⟩
      case rest =>
        obtain ⟨rfl, rfl, rfl⟩ := hcut
        obtain ⟨low, lowK, hNear, hlow, hlowlt, hlk0, hlk1⟩ : ∃ (low : Nat) (lowK : Int), Near V e low lowK m k ∧ ((m = 4503599627370496 ∧ -1074 < k ∧ (4 * (m : Int) - 1 = (low : Int)) ∧ k - 2 = lowK) ∨ (¬ (m = 4503599627370496 ∧ -1074 < k) ∧ (2 * (m : Int) - 1 = (low : Int)) ∧ k - 1 = lowK)) ∧ low < 18446744073709551616 ∧ -2000 ≤ lowK ∧ lowK ≤ 2000 := by
          have hN := HNE.out
          unfold NearG at hN
          by_cases hp : m = 4503599627370496 ∧ -1074 < k
          · rw [if_pos hp] at hN
            exact ⟨4 * m - 1, k - 2, hN, .inl ⟨hp.1, hp.2, by omega, rfl⟩, by omega, by omega, by omega⟩
          · rw [if_neg hp] at hN
            exact ⟨2 * m - 1, k - 1, hN, .inr ⟨hp, by omega, rfl⟩, by omega, by omega, by omega⟩
        have HLW := Lib.hid hlow
        have HNR := Lib.hid hNear
        clear hlow hNear
        have hand : bits .and .u64 (m : Int) 1 = ((m % 2 : Nat) : Int) := and1u m (by omega)
        obtain ⟨pb, hpb⟩ : ∃ pb : Bool, decide (m = 4503599627370496 ∧ -1074 < k) = pb := ⟨_, rfl⟩
        have HPB := Lib.hid hpb
        clear hpb
        go_upto_region 23 with (fail)
        go_cut [120] from 111 to 120 (fun s120 wx => s120 = .bool pb ∧ wx = wc)
        case first =>
          by_cases hp : m = 4503599627370496 ∧ -1074 < k
          · have hpt : true = pb := by rw [← HPB.out]; exact (decide_eq_true hp).symm
            have HPT := Lib.hid hpt
            have e1 : ((m : Int) == 4503599627370496) = true := by rw [beq_iff_eq]; omega
            have e2 : decide (k > -1074) = true := decide_eq_true hp.2
            clear hp hpt
            go_wp2_with fail
            go_meet
            exact ⟨by rw [← HPT.out], rfl⟩
          · have hpt : false = pb := by rw [← HPB.out]; exact (decide_eq_false hp).symm
            have HPT := Lib.hid hpt
            clear hpt
            by_cases h1 : m = 4503599627370496
            · have e1 : ((m : Int) == 4503599627370496) = true := by rw [beq_iff_eq]; omega
              have e2 : ¬ k > -1074 := fun h => hp ⟨h1, h⟩
              have e2b : decide (k > -1074) = false := decide_eq_false e2
              clear hp h1
              go_wp2_with fail
              go_meet
              exact ⟨by rw [← HPT.out], rfl⟩
            · have e1 : ((m : Int) == 4503599627370496) = false := by rw [beq_eq_false_iff_ne]; omega
              clear hp h1
              go_wp2_with fail
              go_meet
              exact ⟨by rw [← HPT.out], rfl⟩
        case rest =>
          obtain ⟨rfl, rfl⟩ := hcut
          go_upto_if 120 with (fail)
          go_cut [17, 18] from 121 to 125 (fun s17 s18 wx => s17 = .int .u64 (low : Int) ∧ s18 = .int .i64 lowK ∧ wx = wc)
          case first =>
            rcases HLW.out with ⟨q1, q2, q3, q4⟩ | ⟨q1, q3, q4⟩
            · have hpt : pb = true := by rw [← HPB.out]; exact decide_eq_true ⟨q1, q2⟩
              subst hpt
              have Q3 := Lib.hid q3
              have Q4 := Lib.hid q4
              clear q1 q3 q4
              go_wp2_with fail
              go_meet
              exact ⟨by rw [← Q3.out], by rw [← Q4.out], rfl⟩
            · have hpt : pb = false := by rw [← HPB.out]; exact decide_eq_false q1
              subst hpt
              have Q3 := Lib.hid q3
              have Q4 := Lib.hid q4
              clear q1 q3 q4
              go_wp2_with fail
              go_meet
              exact ⟨by rw [← Q3.out], by rw [← Q4.out], rfl⟩
          case rest =>
            obtain ⟨rfl, rfl, rfl⟩ := hcut
            clear hm1
            have he := HE.out
            go_wp2_with fail
            refine (fside vd M (by have := D3.out; omega) e lowK he.1 he.2 hlk0 hlk1 low hlowlt wc D1.out).mono ?_
            rintro r w2 ⟨rfl, hb2⟩
            rw [D2.out]
            have D1b := Lib.hid (D1.out.later hb2)
            have D4b := Lib.hid (D4.out.trans (hb2.mono D4.out.size))
            obtain ⟨ca, hca⟩ : ∃ ca, cmpI (sideX V e lowK) (sideY low e lowK) = ca := ⟨_, rfl⟩
            rw [hca]
            have HCA := Lib.hid hca
            have hm1 := HM1.out
            have hk1' : -2000 ≤ k - 1 := by omega
            have hk2' : k - 1 ≤ 2000 := by omega
            have h2m : 2 * m + 1 < 18446744073709551616 := by omega
            obtain ⟨up, hup⟩ : ∃ up : Nat, 2 * (m : Int) + 1 = (up : Int) := ⟨2 * m + 1, by omega⟩
            have hup2 : 2 * m + 1 = up := by omega
            rw [hup2] at h2m
            have HUP := Lib.hid hup2
            clear hca hb2 hup2
            go_wp2_with fail
            refine (fside vd M (by have := D3.out; omega) e (k - 1) he.1 he.2 hk1' hk2' up h2m w2 D1b.out).mono ?_
            rintro r w3 ⟨rfl, hb3⟩
            rw [D2.out]
            have D4c := Lib.hid (D4b.out.trans (hb3.mono D4b.out.size))
            obtain ⟨cb, hcb⟩ : ∃ cb, cmpI (sideX V e (k - 1)) (sideY up e (k - 1)) = cb := ⟨_, rfl⟩
            rw [hcb]
            have hnr := HNR.out
            unfold Near at hnr
            rw [HUP.out] at hnr
            have hfa : ca = 1 ∨ (ca = 0 ∧ m % 2 = 0) := by
              rw [← HCA.out]
              unfold cmpI
              rcases hnr.1 with h | ⟨h, h2⟩
              · left; rw [if_neg (by omega), if_pos h]
              · right; rw [h, if_neg (Nat.lt_irrefl _), if_neg (Nat.lt_irrefl _)]; exact ⟨rfl, h2⟩
            have hfb : cb = -1 ∨ (cb = 0 ∧ m % 2 = 0) := by
              rw [← hcb]
              unfold cmpI
              rcases hnr.2 with h | ⟨h, h2⟩
              · left; rw [if_pos h]
              · right; rw [h, if_neg (Nat.lt_irrefl _), if_neg (Nat.lt_irrefl _)]; exact ⟨rfl, h2⟩
            have R9 := Lib.hid (And.intro hfa hfb)
            clear hcb hnr hfa hfb hb3 hup hm1
            obtain ⟨ev, hev⟩ : ∃ ev : Bool, (((m : Int) % 2) == 0) = ev := ⟨_, rfl⟩
            have HEV := Lib.hid hev
            have hev0 : m % 2 = 0 → ev = true := by
              intro h
              rw [← hev, beq_iff_eq]
              omega
            have HEV0 := Lib.hid hev0
            clear hev0
            rcases R9.out with ⟨ha, hb⟩
            rcases ha with rfl | ⟨rfl, ha2⟩
            · rcases hb with rfl | ⟨rfl, hb2⟩
              · go_wp2
                go_ret
                exact ⟨rfl, D4c.out⟩
              · have hevt := HEV0.out hb2
                subst hevt
                clear hb2
                go_wp2
                go_ret
                exact ⟨rfl, D4c.out⟩
            · have hevt := HEV0.out ha2
              subst hevt
              clear ha2
              rcases hb with rfl | ⟨rfl, _⟩
              · go_wp2
                go_ret
                exact ⟨rfl, D4c.out⟩
              · go_wp2
                go_ret
                exact ⟨rfl, D4c.out⟩
end Go.Proofs.YtkkipddgkfidmaaGreatDoor
