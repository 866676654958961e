/- shortFloat at a subnormal float: its answer lies in the float's rounding interval. No conditions beyond each theorem's own. shortFloat at 32 bits: its answer lies in the float's rounding interval. No conditions beyond each theorem's own. -/
import Derived.Test.YtkkipddgkfidmaaGreatDoorVl
namespace Go.Proofs.YtkkipddgkfidmaaGreatDoor
open Go.RowKit

theorem T_facts (mant T m x0 x1 : Nat) (h0 : 0 < mant) (hm : 2 * mant * T = m) (hx0 : (2 * mant - 1) * T = x0) (hx1 : (2 * mant + 1) * T = x1) : x0 + T = m ∧ x1 = m + T := by
  refine ⟨?_, ?_⟩
  · rw [← hx0, ← hm, Nat.sub_mul, Nat.one_mul]
    exact Nat.sub_add_cancel (Nat.le_mul_of_pos_left _ (Nat.mul_pos (by decide) h0))
  · rw [← hx1, ← hm, Nat.add_mul, Nat.one_mul]

theorem T_wrap (t T x1 m : Nat) (hTT : 2 ^ t = T) (e1 : x1 = m + T) (hb1 : x1 < 18446744073709551616) : IntKind.u64.wrap ((2 : Int) ^ t) = (T : Int) := by
  rw [show (2 : Int) ^ t = (T : Int) by rw [← hTT]; simp, wrapU]
  clear hTT
  omega

theorem fshort64d (q : Int) (hq : q = -1074) (mant t : Nat) (h0 : 0 < mant) (h1 : mant < 4503599627370496) (ht : 11 ≤ t) (ht2 : t < 63) (T m x0 x1 : Nat) (hTT : 2 ^ t = T) (hm : 2 * mant * T = m) (hx0 : (2 * mant - 1) * T = x0) (hx1 : (2 * mant + 1) * T = x1) (hb1 : x1 < 18446744073709551616) (w : World) (hT : PTab w.heap.size w) :
    Calls Tryz.prog 72 #[.int .u64 (m : Int), .int .i64 (-1075 - (t : Int))] w fun e w' => (∃ (r : Nat × Bool) (p : Int), e = .returned (sfOut r p) ∧ l10 q = -p ∧ Within q p mant (full r) ∧ 0 < r.1 ∧ r.1 < 100000000000000000 ∧ -348 ≤ p ∧ p ≤ 347) ∧ Below w.heap.size w w' := by
  obtain ⟨b, d, hrow⟩ := row_of q (by omega) (by omega)
  obtain ⟨p, hp⟩ : ∃ p, l10 q = -p := ⟨-(l10 q), by omega⟩
  obtain ⟨f0, f1, f2, f3, f4⟩ := row_facts hrow hp
  obtain ⟨g0, g1, g2, g3, g4⟩ := row_facts2 hrow hp
  obtain ⟨s, hs⟩ : ∃ s : Nat, ((t : Nat) : Int) - q - l2 p - 2 = s := ⟨((t : Int) + 1072 - l2 p).toNat, by omega⟩
  have hl : -2000 ≤ l2 p ∧ l2 p ≤ 2000 := by unfold l2; omega
  have hs5 : 5 ≤ s := by omega
  have hs6 : s < 64 := by omega
  have hp0 : -348 ≤ p := by omega
  have hp1 : p ≤ 347 := by omega
  have hc := chosen (mant := mant) (t := t) hrow hp h0 (by omega) (by omega) (by rw [hTT, hx1]; exact hb1) hs
  rw [hTT, hm, hx0, hx1] at hc
  obtain ⟨c1, c2, c3, c4⟩ := hc
  obtain ⟨e0, e1⟩ := T_facts mant T m x0 x1 h0 hm hx0 hx1
  have hod := odd_of mant t h1
  rw [hTT, hm] at hod
  refine (fshort64d_aux mant t m x0 x1 T s p hl f3 f4 (by rw [← hq]; exact hp) ht ht2 (by rw [← hq]; exact hs) hs5 hs6 (T_wrap t T x1 m hTT e1 hb1) e0 e1 hb1 g2 g3 g4 hod c4 w hT).mono ?_
  rintro e w' ⟨he, hb⟩
  exact ⟨⟨_, p, he, hp, c1, c2, c3, hp0, hp1⟩, hb⟩
end Go.Proofs.YtkkipddgkfidmaaGreatDoor
namespace Go.Proofs.YtkkipddgkfidmaaGreatDoor
open Go.RowKit

theorem n32_facts (mant : Nat) (h0 : 8388608 ≤ mant) (h1 : mant < 16777216) (m x0 x1 : Nat) (hm : m = 2 * mant * 549755813888) (hx0 : x0 = (2 * mant - 1) * 549755813888) (hx1 : x1 = (2 * mant + 1) * 549755813888) : m < 18446744073709551616 ∧ x0 < 18446744073709551616 ∧ x1 < 18446744073709551616 ∧ (m : Int) - 549755813888 = (x0 : Int) ∧ (m : Int) + 549755813888 = (x1 : Int) ∧ (m : Int) / 1099511627776 = (mant : Int) ∧ (mant ≠ 8388608 → ((m : Int) == 9223372036854775808) = false) ∧ (mant = 8388608 → ((m : Int) == 9223372036854775808) = true) := by
  refine ⟨by omega, by omega, by omega, by omega, by omega, by omega, fun h => ?_, fun h => ?_⟩
  · rw [beq_eq_false_iff_ne]; omega
  · rw [beq_iff_eq]; omega

theorem fshort32n (mant : Nat) (q : Int) (h0 : 8388608 ≤ mant) (h1 : mant < 16777216) (hq0 : -149 ≤ q) (hq1 : q ≤ 104) (hne : mant ≠ 8388608 ∨ q = -149) (m : Nat) (hmm : m = 2 * mant * 549755813888) (w : World) (hT : PTab w.heap.size w) :
    Calls Tryz.prog 64 #[.int .u64 (m : Int), .int .i64 (q - 40)] w fun e w' => (∃ (r : Nat × Bool) (p : Int), e = .returned (sfOut r p) ∧ l10 q = -p ∧ Within q p mant (full r) ∧ 0 < r.1 ∧ r.1 < 100000000000000000 ∧ -348 ≤ p ∧ p ≤ 347) ∧ Below w.heap.size w w' := by
  obtain ⟨b, d, hrow⟩ := row_of q (by omega) (by omega)
  obtain ⟨p, hp⟩ : ∃ p, l10 q = -p := ⟨-(l10 q), by omega⟩
  obtain ⟨f0, f1, f2, f3, f4⟩ := row_facts hrow hp
  obtain ⟨g0, g1, g2, g3, g4⟩ := row_facts2 hrow hp
  obtain ⟨s, hs⟩ : ∃ s : Nat, ((39 : Nat) : Int) - q - l2 p - 2 = s := ⟨(37 - q - l2 p).toNat, by omega⟩
  have hs5 : 5 ≤ s := by omega
  have hs6 : s < 64 := by omega
  have hp0 : -348 ≤ p := by omega
  have hp1 : p ≤ 347 := by omega
  have hi0 : p + 348 = ((348 + p).toNat : Int) := by omega
  have hi1 : (348 + p).toNat < 696 := by omega
  have hse : -((q - 40) + l2 p + 3) = (s : Int) := by omega
  have hl : -2000 ≤ l2 p ∧ l2 p ≤ 2000 := by unfold l2; omega
  obtain ⟨x0, hx0⟩ : ∃ x0, x0 = (2 * mant - 1) * 549755813888 := ⟨_, rfl⟩
  obtain ⟨x1, hx1⟩ : ∃ x1, x1 = (2 * mant + 1) * 549755813888 := ⟨_, rfl⟩
  obtain ⟨n0, n1, n2, n3, n4, n5, n6, n7⟩ := n32_facts mant h0 h1 m x0 x1 hmm hx0 hx1
  have o1 : mant % 2 ≤ 1 := by omega
  have hmn : mant < 9007199254740992 := by omega
  have hod : bits BinOp.and IntKind.i64 ((m : Int) / 1099511627776) 1 = ((mant % 2 : Nat) : Int) := by
    rw [n5]
    exact and1i mant (by omega)
  have e39 : (2 : Nat) ^ 39 = 549755813888 := by decide
  have hc := chosen (mant := mant) (t := 39) hrow hp (by omega) hmn (by decide) (by rw [e39, ← hx1]; exact n2) hs
  rw [e39, ← hmm, ← hx0, ← hx1] at hc
  obtain ⟨c1, c2, c3, c4⟩ := hc
  have he0 : -2000 ≤ q - 40 := by omega
  have he1 : q - 40 ≤ 2000 := by omega
  have he2 : q - 40 + 40 = q := by omega
  have he3 : -189 ≤ q - 40 := by omega
  have he4 : -600 ≤ p := by omega
  have he5 : p ≤ 600 := by omega
  by_cases hm : mant = 8388608
  · have hq : q - 40 ≤ -189 := by
      rcases hne with h | h
      · exact absurd hm h
      · omega
    refine (short32n_true m (q - 40) p x0 x1 (mant % 2) (348 + p).toNat (entry p).1 (entry p).2 s q n0 n1 n2 o1 he2 (n7 hm) hq he3 n3 n4 hod he0 he1 hp he4 he5 hi0 hi1 hse hs5 hs6 hl.1 hl.2 rfl g2 g3 g4 c4 w hT).mono ?_
    rintro e w' ⟨he, hb⟩
    exact ⟨⟨_, p, he, hp, c1, c2, c3, hp0, hp1⟩, hb⟩
  · refine (short32n_false m (q - 40) p x0 x1 (mant % 2) (348 + p).toNat (entry p).1 (entry p).2 s q n0 n1 n2 o1 he2 (n6 hm) he3 n3 n4 hod he0 he1 hp he4 he5 hi0 hi1 hse hs5 hs6 hl.1 hl.2 rfl g2 g3 g4 c4 w hT).mono ?_
    rintro e w' ⟨he, hb⟩
    exact ⟨⟨_, p, he, hp, c1, c2, c3, hp0, hp1⟩, hb⟩

theorem drops32 : ((List.range 253).all fun i => decide (5 ≤ (37 - (((i : Nat) : Int) - 148) - l2 (-(sk (((i : Nat) : Int) - 148))))) && decide ((37 - (((i : Nat) : Int) - 148) - l2 (-(sk (((i : Nat) : Int) - 148)))) < 64)) = true := by kernel_rfl
theorem drops32_at (q : Int) (h0 : -148 ≤ q) (h1 : q ≤ 104) : 5 ≤ 37 - q - l2 (-(sk q)) ∧ 37 - q - l2 (-(sk q)) < 64 := by
  have := List.all_eq_true.1 drops32 (q + 148).toNat (List.mem_range.2 (by omega))
  simp only [Bool.and_eq_true, decide_eq_true_eq] at this
  rwa [show (((q + 148).toNat : Int) - 148) = q by omega] at this

theorem fshort32p (q : Int) (hq0 : -148 ≤ q) (hq1 : q ≤ 104) (w : World) (hT : PTab w.heap.size w) :
    Calls Tryz.prog 64 #[.int .u64 ((9223372036854775808 : Nat) : Int), .int .i64 (q - 40)] w fun e w' => (∃ (r : Nat × Bool) (p : Int), e = .returned (sfOut r p) ∧ WithinPow q p 8388608 (full r) ∧ 0 < r.1 ∧ r.1 < 100000000000000000 ∧ -348 ≤ p ∧ p ≤ 347) ∧ Below w.heap.size w w' := by
  have hk : skOk 23 39 q = true := sk_in sk32 (by omega) (by omega)
  obtain ⟨p, hp⟩ : ∃ p, sk q = -p := ⟨-(sk q), by omega⟩
  unfold skOk at hk
  have hpp : -(sk q) = p := by omega
  simp only [hpp, Bool.and_eq_true, decide_eq_true_eq] at hk
  obtain ⟨⟨⟨⟨⟨⟨⟨k1, k2⟩, k3⟩, k4⟩, k5⟩, k6⟩, k7⟩, k8⟩ := hk
  have hdr := drops32_at q hq0 hq1
  rw [hpp] at hdr
  obtain ⟨g2, g3, g4⟩ := entry_ok k7 k8
  generalize hss : (((39 : Nat) : Int) - q - l2 p - 2).toNat = s at *
  have hl : -2000 ≤ l2 p ∧ l2 p ≤ 2000 := by unfold l2; omega
  have hod : bits BinOp.and IntKind.i64 (((9223372036854775808 : Nat) : Int) / 1099511627776) 1 = ((0 : Nat) : Int) := by decide
  have hs5 : 5 ≤ s := by omega
  have hs6 : s < 64 := by omega
  refine (short32p 9223372036854775808 (q - 40) p (9223372036854775808 - 2 ^ 38) (9223372036854775808 + 2 ^ 39) 0 (348 + p).toNat (entry p).1 (entry p).2 s q (by omega) (by omega) (by omega) (by omega) (by omega) (by rfl) (by omega) (by omega) (by omega) hod (by omega) (by omega) hp (by omega) (by omega) (by omega) (by omega) (by omega) hs5 hs6 hl.1 hl.2 rfl g2 g3 g4 (Nat.zero_le _) w hT).mono ?_
  rintro e w' ⟨he, hb⟩
  refine ⟨⟨_, p, he, ⟨k1, k2⟩, ?_, ?_, by omega, by omega⟩, hb⟩
  · exact full_pos k3
  · exact full_lt k4

theorem fshort32d_aux (mant t m x0 x1 T s : Nat) (p : Int) (hl : -2000 ≤ l2 p ∧ l2 p ≤ 2000) (f3 : 0 ≤ 348 + p) (f4 : 348 + p < 696) (hp : l10 (-149) = -p) (ht : 40 ≤ t) (ht2 : t < 63) (hs : ((t : Nat) : Int) - (-149) - l2 p - 2 = s) (hs5 : 5 ≤ s) (hs6 : s < 64)
    (hw : IntKind.u64.wrap ((2 : Int) ^ t) = (T : Int)) (e0 : x0 + T = m) (e1 : x1 = m + T) (hx1 : x1 < 18446744073709551616) (g2 : (entry p).1 < 18446744073709551616) (g3 : 1 ≤ (entry p).1) (g4 : (entry p).2 < 18446744073709551616)
    (hod : bits BinOp.and IntKind.i64 (wrap64 ((m : Int) / 2 ^ (t + 1))) 1 = ((mant % 2 : Nat) : Int)) (c4 : mant % 2 ≤ us x1 (entry p).1 (entry p).2 (2 ^ s)) (w : World) (hT : PTab w.heap.size w) :
    Calls Tryz.prog 64 #[.int .u64 (m : Int), .int .i64 (-150 - (t : Int))] w fun e w' => e = .returned (sfOut (sfRes x0 x1 m (entry p).1 (entry p).2 (2 ^ s) (mant % 2)) p) ∧ Below w.heap.size w w' := by
  have k0 : (m : Int) - IntKind.u64.wrap (2 ^ t) = (x0 : Int) := by rw [hw]; omega
  have k1 : (m : Int) + IntKind.u64.wrap (2 ^ t) = (x1 : Int) := by rw [hw]; omega
  have o1 : mant % 2 ≤ 1 := by omega
  have hi0 : p + 348 = ((348 + p).toNat : Int) := by omega
  have hi1 : (348 + p).toNat < 696 := by omega
  have hse : -((-150 - (t : Int)) + l2 p + 3) = (s : Int) := by omega
  cases hbb : ((m : Int) == 9223372036854775808)
  · exact short32d_false m (-150 - t) p x0 x1 (mant % 2) (348 + p).toNat (entry p).1 (entry p).2 s (-149) t (by omega) (by omega) hx1 o1 (by omega) ht2 (by omega) hbb (by omega) k0 k1 hod (by omega) (by omega) hp (by omega) (by omega) hi0 hi1 hse hs5 hs6 hl.1 hl.2 rfl g2 g3 g4 c4 w hT
  · exact short32d_true m (-150 - t) p x0 x1 (mant % 2) (348 + p).toNat (entry p).1 (entry p).2 s (-149) t (by omega) (by omega) hx1 o1 (by omega) ht2 (by omega) hbb (by omega) k0 k1 hod (by omega) (by omega) hp (by omega) (by omega) hi0 hi1 hse hs5 hs6 hl.1 hl.2 rfl g2 g3 g4 c4 w hT

theorem fshort32d (q : Int) (hq : q = -149) (mant t : Nat) (h0 : 0 < mant) (h1 : mant < 8388608) (ht : 40 ≤ t) (ht2 : t < 63) (T m x0 x1 : Nat) (hTT : 2 ^ t = T) (hm : 2 * mant * T = m) (hx0 : (2 * mant - 1) * T = x0) (hx1 : (2 * mant + 1) * T = x1) (hb1 : x1 < 18446744073709551616) (w : World) (hT : PTab w.heap.size w) :
    Calls Tryz.prog 64 #[.int .u64 (m : Int), .int .i64 (-150 - (t : Int))] w fun e w' => (∃ (r : Nat × Bool) (p : Int), e = .returned (sfOut r p) ∧ l10 q = -p ∧ Within q p mant (full r) ∧ 0 < r.1 ∧ r.1 < 100000000000000000 ∧ -348 ≤ p ∧ p ≤ 347) ∧ Below w.heap.size w w' := by
  obtain ⟨b, d, hrow⟩ := row_of q (by omega) (by omega)
  obtain ⟨p, hp⟩ : ∃ p, l10 q = -p := ⟨-(l10 q), by omega⟩
  obtain ⟨f0, f1, f2, f3, f4⟩ := row_facts hrow hp
  obtain ⟨g0, g1, g2, g3, g4⟩ := row_facts2 hrow hp
  obtain ⟨s, hs⟩ : ∃ s : Nat, ((t : Nat) : Int) - q - l2 p - 2 = s := ⟨((t : Int) + 147 - l2 p).toNat, by omega⟩
  have hl : -2000 ≤ l2 p ∧ l2 p ≤ 2000 := by unfold l2; omega
  have hs5 : 5 ≤ s := by omega
  have hs6 : s < 64 := by omega
  have hp0 : -348 ≤ p := by omega
  have hp1 : p ≤ 347 := by omega
  have hc := chosen (mant := mant) (t := t) hrow hp h0 (by omega) (by omega) (by rw [hTT, hx1]; exact hb1) hs
  rw [hTT, hm, hx0, hx1] at hc
  obtain ⟨c1, c2, c3, c4⟩ := hc
  obtain ⟨e0, e1⟩ := T_facts mant T m x0 x1 h0 hm hx0 hx1
  have hod := odd_of mant t (by omega)
  rw [hTT, hm] at hod
  refine (fshort32d_aux mant t m x0 x1 T s p hl f3 f4 (by rw [← hq]; exact hp) ht ht2 (by rw [← hq]; exact hs) hs5 hs6 (T_wrap t T x1 m hTT e1 hb1) e0 e1 hb1 g2 g3 g4 hod c4 w hT).mono ?_
  rintro e w' ⟨he, hb⟩
  exact ⟨⟨_, p, he, hp, c1, c2, c3, hp0, hp1⟩, hb⟩
end Go.Proofs.YtkkipddgkfidmaaGreatDoor
