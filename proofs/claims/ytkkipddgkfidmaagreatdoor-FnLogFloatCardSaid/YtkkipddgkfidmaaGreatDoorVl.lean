/- shortFloat at 64 bits, at a power of two and at a subnormal float: its answer lies in the float's rounding interval. No conditions beyond each theorem's own. -/
import Derived.Test.YtkkipddgkfidmaaGreatDoorVk
namespace Go.Proofs.YtkkipddgkfidmaaGreatDoor
open Go.RowKit

/-- The interval of a power of two, whose lower neighbour lies half as far. -/
def WithinPow (q p : Int) (mant D : Nat) : Prop := (4 * mant - 1) * num q p ≤ 8 * D * den q p ∧ 4 * D * den q p ≤ (2 * mant + 1) * num q p

theorem full_pos {r : Nat × Bool} (h : 0 < full r) : 0 < r.1 := by
  unfold full at h
  split at h <;> omega
theorem full_lt {r : Nat × Bool} {n : Nat} (h : full r < n) : r.1 < n := by
  unfold full at h
  split at h <;> omega

theorem rows_all : (Go.Pinned.pow10Rows.all fun x => decide (x.1 < 18446744073709551616) && decide (1 ≤ x.1) && decide (x.2 < 18446744073709551616)) = true := by kernel_rfl
theorem rows_len : Go.Pinned.pow10Rows.length = 696 := by kernel_rfl
theorem entry_ok {p : Int} (h0 : 0 ≤ 348 + p) (h1 : 348 + p < 696) : (entry p).1 < 18446744073709551616 ∧ 1 ≤ (entry p).1 ∧ (entry p).2 < 18446744073709551616 := by
  have hl : (348 + p).toNat < Go.Pinned.pow10Rows.length := by rw [rows_len]; omega
  have hm : entry p ∈ Go.Pinned.pow10Rows := by
    unfold entry
    rw [List.getD_eq_getElem?_getD, List.getElem?_eq_getElem hl]
    exact List.getElem_mem hl
  have := List.all_eq_true.1 rows_all _ hm
  simp only [Bool.and_eq_true, decide_eq_true_eq] at this
  exact ⟨this.1.1, this.1.2, this.2⟩

/-- The places that a power of two drops. -/
theorem drops : ((List.range 2045).all fun i => decide (5 ≤ (8 - (((i : Nat) : Int) - 1073) - l2 (-(sk (((i : Nat) : Int) - 1073)))))) = true := by kernel_rfl
theorem drops_at (q : Int) (h0 : -1073 ≤ q) (h1 : q ≤ 971) : 5 ≤ 8 - q - l2 (-(sk q)) := by
  have := List.all_eq_true.1 drops (q + 1073).toNat (List.mem_range.2 (by omega))
  simp only [decide_eq_true_eq] at this
  rwa [show (((q + 1073).toNat : Int) - 1073) = q by omega] at this

theorem fshort64p (q : Int) (hq0 : -1073 ≤ q) (hq1 : q ≤ 971) (w : World) (hT : PTab w.heap.size w) :
    Calls Tryz.prog 72 #[.int .u64 ((9223372036854775808 : Nat) : Int), .int .i64 (q - 11)] w fun e w' => (∃ (r : Nat × Bool) (p : Int), e = .returned (sfOut r p) ∧ WithinPow q p 4503599627370496 (full r) ∧ 0 < r.1 ∧ r.1 < 100000000000000000 ∧ -348 ≤ p ∧ p ≤ 347) ∧ Below w.heap.size w w' := by
  have hk := sk_of q hq0 hq1
  obtain ⟨b, d, hrow⟩ := row_of q (by omega) hq1
  obtain ⟨p, hp⟩ : ∃ p, sk q = -p := ⟨-(sk q), by omega⟩
  unfold skOk at hk
  have hpp : -(sk q) = p := by omega
  simp only [hpp, Bool.and_eq_true, decide_eq_true_eq] at hk
  obtain ⟨⟨⟨⟨⟨⟨⟨k1, k2⟩, k3⟩, k4⟩, k5⟩, k6⟩, k7⟩, k8⟩ := hk
  have hdr := drops_at q hq0 hq1
  rw [hpp] at hdr
  obtain ⟨g2, g3, g4⟩ := entry_ok k7 k8
  generalize (((10 : Nat) : Int) - q - l2 p - 2).toNat = s at *
  have hl : -2000 ≤ l2 p ∧ l2 p ≤ 2000 := by unfold l2; omega
  have hod : bits BinOp.and IntKind.i64 (((9223372036854775808 : Nat) : Int) / 2048) 1 = ((0 : Nat) : Int) := by decide
  refine (short64p 9223372036854775808 (q - 11) p (9223372036854775808 - 2 ^ 9) (9223372036854775808 + 2 ^ 10) 0 (348 + p).toNat (entry p).1 (entry p).2 s q (by omega) (by omega) (by omega) (by omega) (by omega) (by rfl) (by omega) (by omega) (by omega) hod (by omega) (by omega) hp (by omega) (by omega) (by omega) (by omega) (by omega) (by omega) (by omega) hl.1 hl.2 rfl g2 g3 g4 (Nat.zero_le _) w hT).mono ?_
  rintro e w' ⟨he, hb⟩
  refine ⟨⟨_, p, he, ⟨k1, k2⟩, ?_, ?_, by omega, by omega⟩, hb⟩
  · exact full_pos k3
  · exact full_lt k4

theorem odd_of (mant t : Nat) (h1 : mant < 4503599627370496) : bits BinOp.and IntKind.i64 (wrap64 (((2 * mant * 2 ^ t : Nat) : Int) / 2 ^ (t + 1))) 1 = ((mant % 2 : Nat) : Int) := by
  have hm63 : mant < 9223372036854775808 := by omega
  have hw : wrap64 (mant : Int) = (mant : Int) := by
    unfold wrap64
    omega
  have hpos := Nat.two_pow_pos t
  have hT1 : (2 : Int) ^ (t + 1) = ((2 ^ (t + 1) : Nat) : Int) := by simp
  have hmd : 2 * mant * 2 ^ t / 2 ^ (t + 1) = mant := by
    rw [Nat.pow_succ, show 2 * mant * 2 ^ t = mant * (2 ^ t * 2) by ac_rfl]
    exact Nat.mul_div_cancel _ (Nat.mul_pos hpos (by decide))
  rw [hT1, ← Int.natCast_ediv, hmd, hw]
  exact and1i mant hm63

theorem fshort64d_aux (mant t m x0 x1 T s : Nat) (p : Int) (hl : -2000 ≤ l2 p ∧ l2 p ≤ 2000) (f3 : 0 ≤ 348 + p) (f4 : 348 + p < 696) (hp : l10 (-1074) = -p) (ht : 11 ≤ t) (ht2 : t < 63) (hs : ((t : Nat) : Int) - (-1074) - l2 p - 2 = s) (hs5 : 5 ≤ s) (hs6 : s < 64)
    (hw : IntKind.u64.wrap ((2 : Int) ^ t) = (T : Int)) (e0 : x0 + T = m) (e1 : x1 = m + T) (hx1 : x1 < 18446744073709551616) (g2 : (entry p).1 < 18446744073709551616) (g3 : 1 ≤ (entry p).1) (g4 : (entry p).2 < 18446744073709551616)
    (hod : bits BinOp.and IntKind.i64 (wrap64 ((m : Int) / 2 ^ (t + 1))) 1 = ((mant % 2 : Nat) : Int)) (c4 : mant % 2 ≤ us x1 (entry p).1 (entry p).2 (2 ^ s)) (w : World) (hT : PTab w.heap.size w) :
    Calls Tryz.prog 72 #[.int .u64 (m : Int), .int .i64 (-1075 - (t : Int))] w fun e w' => e = .returned (sfOut (sfRes x0 x1 m (entry p).1 (entry p).2 (2 ^ s) (mant % 2)) p) ∧ Below w.heap.size w w' := by
  have k0 : (m : Int) - IntKind.u64.wrap (2 ^ t) = (x0 : Int) := by rw [hw]; omega
  have k1 : (m : Int) + IntKind.u64.wrap (2 ^ t) = (x1 : Int) := by rw [hw]; omega
  have o1 : mant % 2 ≤ 1 := by omega
  have hi0 : p + 348 = ((348 + p).toNat : Int) := by omega
  have hi1 : (348 + p).toNat < 696 := by omega
  have hse : -((-1075 - (t : Int)) + l2 p + 3) = (s : Int) := by omega
  cases hbb : ((m : Int) == 9223372036854775808)
  · exact short64d_false m (-1075 - t) p x0 x1 (mant % 2) (348 + p).toNat (entry p).1 (entry p).2 s (-1074) t (by omega) (by omega) hx1 o1 (by omega) ht2 (by omega) hbb (by omega) k0 k1 hod (by omega) (by omega) hp (by omega) (by omega) hi0 hi1 hse hs5 hs6 hl.1 hl.2 rfl g2 g3 g4 c4 w hT
  · exact short64d_true m (-1075 - t) p x0 x1 (mant % 2) (348 + p).toNat (entry p).1 (entry p).2 s (-1074) t (by omega) (by omega) hx1 o1 (by omega) ht2 (by omega) hbb (by omega) k0 k1 hod (by omega) (by omega) hp (by omega) (by omega) hi0 hi1 hse hs5 hs6 hl.1 hl.2 rfl g2 g3 g4 c4 w hT
end Go.Proofs.YtkkipddgkfidmaaGreatDoor
