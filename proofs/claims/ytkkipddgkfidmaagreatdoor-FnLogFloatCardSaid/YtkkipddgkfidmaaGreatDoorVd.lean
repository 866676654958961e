/- The contracts of shortFloat at both widths: which table's entry is taken, and which decimal is chosen. No conditions beyond each theorem's own. -/
import Derived.Test.YtkkipddgkfidmaaGreatDoorVc
namespace Go.Proofs.YtkkipddgkfidmaaGreatDoor
open Go.RowKit

/-- The table of powers of ten, now and behind whatever turns nothing below B. -/
def PTab (B : Nat) (w : World) : Prop := ∀ w', Below B w w' → ∀ i, i < 696 → w'.cell? ⟨7, i * 2, none⟩ = some (.int .u64 ((Go.Pinned.pow10Rows.getD i (0, 0)).1 : Int)) ∧ w'.cell? ⟨7, i * 2 + 1, none⟩ = some (.int .u64 ((Go.Pinned.pow10Rows.getD i (0, 0)).2 : Int))
theorem PTab.on {B : Nat} {w w1 : World} (h : PTab B w) (hb : Below B w w1) : PTab B w1 := fun w' h' => h w' (hb.trans h')
theorem PTab.up {B B' : Nat} {w : World} (h : PTab B w) (hB : B ≤ B') : PTab B' w := fun w' hb => h w' (hb.mono hB)
theorem PTab.seven {B : Nat} {w : World} (h : PTab B w) : 7 < w.heap.size := by
  have := (h w (Below.refl _ _) 0 (by decide)).1
  unfold World.cell? at this
  by_cases c : 7 < w.heap.size
  · exact c
  · exfalso
    rw [show w.heap[(⟨7, 0 * 2, none⟩ : Addr).block]? = none from Array.getElem?_eq_none (by show w.heap.size ≤ 7; omega)] at this
    cases this

theorem us_small {x hi lo s : Nat} (hx : x < 18446744073709551616) (hhi : hi < 18446744073709551616) (hs : 5 ≤ s) : us x hi lo (2 ^ s) < 1000000000000000000 := by
  have hT : 32 ≤ 2 ^ s := Nat.pow_le_pow_right (n := 2) (by decide) hs
  have hH : x * hi / 18446744073709551616 < 18446744073709551616 := by
    have : x * hi ≤ 18446744073709551615 * 18446744073709551615 := Nat.mul_le_mul (by omega) (by omega)
    exact Nat.div_lt_of_lt_mul (by omega)
  rw [us_eq]
  unfold usR stick
  generalize x * hi / 18446744073709551616 = H at *
  generalize x * hi % 18446744073709551616 = M
  generalize x * lo / 18446744073709551616 = m2
  have d1 : ∀ Y, Y ≤ H → Y / 2 ^ s ≤ H / 32 := fun Y hY => Nat.le_trans (Nat.div_le_div_left hT (by decide)) (Nat.div_le_div_right hY)
  have d2 := d1 H (Nat.le_refl _)
  have d3 := d1 (H - 1) (Nat.sub_le _ _)
  split
  · omega
  · simp only []
    split <;> split <;> omega

theorem below_drewN (B : Nat) (w : World) (n : Nat) : Below B w (w.drewN n) := ⟨rfl, rfl, rfl, Nat.le_refl _, fun _ _ => rfl⟩

/-- What shortFloat hands back. -/
def sfOut (r : Nat × Bool) (p : Int) : Value := .tuple #[.int .u64 (r.1 : Int), .int .i64 (if r.2 then -(p - 1) else -p)]
def sfRes (x0 x1 m hi lo T odd : Nat) : Nat × Bool := shortD (ceil4 (us x0 hi lo T) odd) (floor4 (us x1 hi lo T) odd) (round4 (us m hi lo T))

set_option maxRecDepth 100000 in
set_option maxHeartbeats 8000000 in
theorem short64n_false (m : Nat) (e p : Int) (x0 x1 odd i hi lo s : Nat) (q : Int) (hm : m < 18446744073709551616) (hx0 : x0 < 18446744073709551616) (hx1 : x1 < 18446744073709551616) (ho : odd ≤ 1) (hq : e + 11 = q) (hb : ((m : Int) == 9223372036854775808) = false) (hge : -1085 ≤ e) (hmn : (m : Int) - 1024 = (x0 : Int)) (hmx : (m : Int) + 1024 = (x1 : Int)) (hod : bits BinOp.and IntKind.i64 ((m : Int) / 2048) 1 = (odd : Int))
    (he0 : -2000 ≤ e) (he1 : e ≤ 2000) (hp : l10 q = -p) (hp0 : -600 ≤ p) (hp1 : p ≤ 600) (hi0 : p + 348 = i) (hi1 : i < 696) (hs : -(e + l2 p + 3) = (s : Int)) (hs5 : 5 ≤ s) (hs6 : s < 64) (hl0 : -2000 ≤ l2 p) (hl1 : l2 p ≤ 2000)
    (hent : Go.Pinned.pow10Rows.getD i (0, 0) = (hi, lo)) (hhi : hi < 18446744073709551616) (hhi1 : 1 ≤ hi) (hlo : lo < 18446744073709551616) (hu1 : odd ≤ us x1 hi lo (2 ^ s)) (w : World) (hT : PTab w.heap.size w) :
    Calls Tryz.prog 72 #[.int .u64 (m : Int), .int .i64 e] w fun r w' => r = .returned (sfOut (sfRes x0 x1 m hi lo (2 ^ s) odd) p) ∧ Below w.heap.size w w' := by
  have h7 := hT.seven
  have _he := And.intro he0 he1
  have k0 := us_small (lo := lo) hx0 hhi hs5
  have k1 := us_small (lo := lo) hx1 hhi hs5
  have k2 := us_small (lo := lo) hm hhi hs5
  have HT := Lib.hid hT
  have HP := Lib.hid hp
  have HS := Lib.hid hs
  unfold sfRes
  obtain ⟨u0, hu0⟩ : ∃ u, us x0 hi lo (2 ^ s) = u := ⟨_, rfl⟩
  obtain ⟨u1, hv1⟩ : ∃ u, us x1 hi lo (2 ^ s) = u := ⟨_, rfl⟩
  obtain ⟨u2, hu2⟩ : ∃ u, us m hi lo (2 ^ s) = u := ⟨_, rfl⟩
  rw [hu0, hv1, hu2]
  rw [hv1] at hu1 k1
  rw [hu0] at k0
  rw [hu2] at k2
  obtain ⟨d0, hd0⟩ : ∃ d, ceil4 u0 odd = d := ⟨_, rfl⟩
  obtain ⟨d1, hd1⟩ : ∃ d, floor4 u1 odd = d := ⟨_, rfl⟩
  obtain ⟨d2, hd2⟩ : ∃ d, round4 u2 = d := ⟨_, rfl⟩
  have kd0 : d0 < 1000000000000000000 := by rw [← hd0]; unfold ceil4; omega
  have kd1 : d1 < 1000000000000000000 := by rw [← hd1]; unfold floor4; omega
  have kd2 : d2 < 1000000000000000000 := by rw [← hd2]; unfold round4; omega
  rw [hd0, hd1, hd2]
  obtain ⟨rr, hrr⟩ : ∃ r, shortD d0 d1 d2 = r := ⟨_, rfl⟩
  rw [hrr]
  have RR := Lib.hid hrr
  have U0 := Lib.hid hu0
  have U1 := Lib.hid hv1
  have U2 := Lib.hid hu2
  have D0 := Lib.hid hd0
  have D1 := Lib.hid hd1
  have D2 := Lib.hid hd2
  clear hT hp hs hu0 hv1 hu2 hd0 hd1 hd2 hrr
  go_enter Tryz.func72, Tryz.ntmps72
  go_wp2_with fail
  refine (flog10 q (by omega) (by omega) w).mono ?_
  rintro e1 w1 ⟨rfl, rfl⟩
  rw [HP.out]
  go_wp2_with fail
  refine (flog2 p (by omega) (by omega) _).mono ?_
  rintro e2 w2 ⟨rfl, rfl⟩
  go_wp2_with fail
  have hA : Below w.heap.size w (w.alloc (.cells #[.int .u64 0, .int .u64 0, .int .i64 0] 133)) := by go_grown
  have hk : (w.alloc (.cells #[.int .u64 0, .int .u64 0, .int .i64 0] 133)).heap[w.heap.size]? = some (.cells #[.int .u64 0, .int .u64 0, .int .i64 0] 133 (0, 0)) := by
    show (w.heap.push _)[w.heap.size]? = _
    simp
  have ht := HT.out _ hA i hi1
  rw [hent] at ht
  refine (fprescale w.heap.size e p (l2 p) i hi lo _ _ _ hi0 hi1 ⟨by omega, by omega⟩ ⟨by omega, by omega⟩ _ hk (by omega) ht.1 ht.2).mono ?_
  rintro r w3 ⟨rfl, hk3, hb3⟩
  rw [HS.out] at hk3
  have c0 : w3.cell? ⟨w.heap.size, 0, none⟩ = some (.int .u64 (hi : Int)) := by rw [cell_at hk3]; rfl
  have c1 : w3.cell? ⟨w.heap.size, 1, none⟩ = some (.int .u64 (lo : Int)) := by rw [cell_at hk3]; rfl
  have c2 : w3.cell? ⟨w.heap.size, 2, none⟩ = some (.int .i64 (s : Int)) := by rw [cell_at hk3]; rfl
  have B3 := Lib.hid (hA.trans hb3)
  clear hk3 hb3 hA hk ht
  go_wp2_with fail
  refine (fuscale x0 hi lo s w.heap.size hx0 hhi hhi1 hlo hs6 w3 c0 c1 c2).mono ?_
  rintro r w4 ⟨rfl, m1, rfl⟩
  rw [U0.out]
  go_wp2_with fail
  refine (fnudge u0 (by omega) odd (by omega) (by omega) (by omega) _).mono ?_
  rintro r w5 ⟨rfl, rfl⟩
  rw [show (u0 : Int) + (odd : Int) = ((u0 + odd : Nat) : Int) by omega]
  go_wp2_with fail
  refine (fceil (u0 + odd) (by omega) _).mono ?_
  rintro r w6 ⟨rfl, rfl⟩
  rw [show (u0 + odd + 3) / 4 = d0 from D0.out]
  go_wp2_with fail
  refine (fuscale x1 hi lo s w.heap.size hx1 hhi hhi1 hlo hs6 (w3.drewN m1) c0 c1 c2).mono ?_
  rintro r w7 ⟨rfl, m2, rfl⟩
  rw [U1.out]
  go_wp2_with fail
  refine (fnudge u1 (by omega) (-(odd : Int)) (by omega) (by omega) (by omega) _).mono ?_
  rintro r w8 ⟨rfl, rfl⟩
  rw [show (u1 : Int) + -(odd : Int) = ((u1 - odd : Nat) : Int) by omega]
  go_wp2_with fail
  refine (ffloor (u1 - odd) (by omega) _).mono ?_
  rintro r w9 ⟨rfl, rfl⟩
  rw [show (u1 - odd) / 4 = d1 from D1.out]
  have hB : Below w.heap.size w (w3.drewN (m1 + m2)) := B3.out.trans (below_drewN _ _ _)
  have HB := Lib.hid hB
  clear hB
  by_cases q1 : d0 ≤ d1 / 10 * 10
  · have q1' : (d0 : Int) ≤ (d1 : Int) / 10 * 10 := by omega
    go_wp2
    go_ret2
    refine ⟨?_, HB.out⟩
    rw [← RR.out, show shortD d0 d1 d2 = (d1 / 10, true) from if_pos q1]
    rfl
  · have q1' : ¬ (d0 : Int) ≤ (d1 : Int) / 10 * 10 := by omega
    by_cases q2 : d0 < d1
    · have q2' : (d0 : Int) < (d1 : Int) := by omega
      go_wp2_with fail
      refine (fuscale m hi lo s w.heap.size hm hhi hhi1 hlo hs6 (w3.drewN (m1 + m2)) c0 c1 c2).mono ?_
      rintro r w9 ⟨rfl, m3, rfl⟩
      rw [U2.out]
      go_wp2_with fail
      refine (fround u2 (by omega) _).mono ?_
      rintro r w10 ⟨rfl, rfl⟩
      rw [show round4 u2 = d2 from D2.out]
      go_wp2
      go_ret2
      refine ⟨?_, B3.out.trans (below_drewN _ _ _)⟩
      rw [← RR.out, show shortD d0 d1 d2 = (d2, false) by unfold shortD; rw [if_neg q1, if_pos q2]]
      rfl
    · have q2' : ¬ (d0 : Int) < (d1 : Int) := by omega
      go_wp2
      go_ret2
      refine ⟨?_, HB.out⟩
      rw [← RR.out, show shortD d0 d1 d2 = (d0, false) by unfold shortD; rw [if_neg q1, if_neg q2]]
      rfl

set_option maxRecDepth 100000 in
set_option maxHeartbeats 8000000 in
theorem short64n_true (m : Nat) (e p : Int) (x0 x1 odd i hi lo s : Nat) (q : Int) (hm : m < 18446744073709551616) (hx0 : x0 < 18446744073709551616) (hx1 : x1 < 18446744073709551616) (ho : odd ≤ 1) (hq : e + 11 = q) (hb : ((m : Int) == 9223372036854775808) = true) (hbe : e ≤ -1085) (hge : -1085 ≤ e) (hmn : (m : Int) - 1024 = (x0 : Int)) (hmx : (m : Int) + 1024 = (x1 : Int)) (hod : bits BinOp.and IntKind.i64 ((m : Int) / 2048) 1 = (odd : Int))
    (he0 : -2000 ≤ e) (he1 : e ≤ 2000) (hp : l10 q = -p) (hp0 : -600 ≤ p) (hp1 : p ≤ 600) (hi0 : p + 348 = i) (hi1 : i < 696) (hs : -(e + l2 p + 3) = (s : Int)) (hs5 : 5 ≤ s) (hs6 : s < 64) (hl0 : -2000 ≤ l2 p) (hl1 : l2 p ≤ 2000)
    (hent : Go.Pinned.pow10Rows.getD i (0, 0) = (hi, lo)) (hhi : hi < 18446744073709551616) (hhi1 : 1 ≤ hi) (hlo : lo < 18446744073709551616) (hu1 : odd ≤ us x1 hi lo (2 ^ s)) (w : World) (hT : PTab w.heap.size w) :
    Calls Tryz.prog 72 #[.int .u64 (m : Int), .int .i64 e] w fun r w' => r = .returned (sfOut (sfRes x0 x1 m hi lo (2 ^ s) odd) p) ∧ Below w.heap.size w w' := by
  have h7 := hT.seven
  have _he := And.intro he0 he1
  have k0 := us_small (lo := lo) hx0 hhi hs5
  have k1 := us_small (lo := lo) hx1 hhi hs5
  have k2 := us_small (lo := lo) hm hhi hs5
  have HT := Lib.hid hT
  have HP := Lib.hid hp
  have HS := Lib.hid hs
  unfold sfRes
  obtain ⟨u0, hu0⟩ : ∃ u, us x0 hi lo (2 ^ s) = u := ⟨_, rfl⟩
  obtain ⟨u1, hv1⟩ : ∃ u, us x1 hi lo (2 ^ s) = u := ⟨_, rfl⟩
  obtain ⟨u2, hu2⟩ : ∃ u, us m hi lo (2 ^ s) = u := ⟨_, rfl⟩
  rw [hu0, hv1, hu2]
  rw [hv1] at hu1 k1
  rw [hu0] at k0
  rw [hu2] at k2
  obtain ⟨d0, hd0⟩ : ∃ d, ceil4 u0 odd = d := ⟨_, rfl⟩
  obtain ⟨d1, hd1⟩ : ∃ d, floor4 u1 odd = d := ⟨_, rfl⟩
  obtain ⟨d2, hd2⟩ : ∃ d, round4 u2 = d := ⟨_, rfl⟩
  have kd0 : d0 < 1000000000000000000 := by rw [← hd0]; unfold ceil4; omega
  have kd1 : d1 < 1000000000000000000 := by rw [← hd1]; unfold floor4; omega
  have kd2 : d2 < 1000000000000000000 := by rw [← hd2]; unfold round4; omega
  rw [hd0, hd1, hd2]
  obtain ⟨rr, hrr⟩ : ∃ r, shortD d0 d1 d2 = r := ⟨_, rfl⟩
  rw [hrr]
  have RR := Lib.hid hrr
  have U0 := Lib.hid hu0
  have U1 := Lib.hid hv1
  have U2 := Lib.hid hu2
  have D0 := Lib.hid hd0
  have D1 := Lib.hid hd1
  have D2 := Lib.hid hd2
  clear hT hp hs hu0 hv1 hu2 hd0 hd1 hd2 hrr
  go_enter Tryz.func72, Tryz.ntmps72
  go_wp2_with fail
  refine (flog10 q (by omega) (by omega) w).mono ?_
  rintro e1 w1 ⟨rfl, rfl⟩
  rw [HP.out]
  go_wp2_with fail
  refine (flog2 p (by omega) (by omega) _).mono ?_
  rintro e2 w2 ⟨rfl, rfl⟩
  go_wp2_with fail
  have hA : Below w.heap.size w (w.alloc (.cells #[.int .u64 0, .int .u64 0, .int .i64 0] 133)) := by go_grown
  have hk : (w.alloc (.cells #[.int .u64 0, .int .u64 0, .int .i64 0] 133)).heap[w.heap.size]? = some (.cells #[.int .u64 0, .int .u64 0, .int .i64 0] 133 (0, 0)) := by
    show (w.heap.push _)[w.heap.size]? = _
    simp
  have ht := HT.out _ hA i hi1
  rw [hent] at ht
  refine (fprescale w.heap.size e p (l2 p) i hi lo _ _ _ hi0 hi1 ⟨by omega, by omega⟩ ⟨by omega, by omega⟩ _ hk (by omega) ht.1 ht.2).mono ?_
  rintro r w3 ⟨rfl, hk3, hb3⟩
  rw [HS.out] at hk3
  have c0 : w3.cell? ⟨w.heap.size, 0, none⟩ = some (.int .u64 (hi : Int)) := by rw [cell_at hk3]; rfl
  have c1 : w3.cell? ⟨w.heap.size, 1, none⟩ = some (.int .u64 (lo : Int)) := by rw [cell_at hk3]; rfl
  have c2 : w3.cell? ⟨w.heap.size, 2, none⟩ = some (.int .i64 (s : Int)) := by rw [cell_at hk3]; rfl
  have B3 := Lib.hid (hA.trans hb3)
  clear hk3 hb3 hA hk ht
  go_wp2_with fail
  refine (fuscale x0 hi lo s w.heap.size hx0 hhi hhi1 hlo hs6 w3 c0 c1 c2).mono ?_
  rintro r w4 ⟨rfl, m1, rfl⟩
  rw [U0.out]
  go_wp2_with fail
  refine (fnudge u0 (by omega) odd (by omega) (by omega) (by omega) _).mono ?_
  rintro r w5 ⟨rfl, rfl⟩
  rw [show (u0 : Int) + (odd : Int) = ((u0 + odd : Nat) : Int) by omega]
  go_wp2_with fail
  refine (fceil (u0 + odd) (by omega) _).mono ?_
  rintro r w6 ⟨rfl, rfl⟩
  rw [show (u0 + odd + 3) / 4 = d0 from D0.out]
  go_wp2_with fail
  refine (fuscale x1 hi lo s w.heap.size hx1 hhi hhi1 hlo hs6 (w3.drewN m1) c0 c1 c2).mono ?_
  rintro r w7 ⟨rfl, m2, rfl⟩
  rw [U1.out]
  go_wp2_with fail
  refine (fnudge u1 (by omega) (-(odd : Int)) (by omega) (by omega) (by omega) _).mono ?_
  rintro r w8 ⟨rfl, rfl⟩
  rw [show (u1 : Int) + -(odd : Int) = ((u1 - odd : Nat) : Int) by omega]
  go_wp2_with fail
  refine (ffloor (u1 - odd) (by omega) _).mono ?_
  rintro r w9 ⟨rfl, rfl⟩
  rw [show (u1 - odd) / 4 = d1 from D1.out]
  have hB : Below w.heap.size w (w3.drewN (m1 + m2)) := B3.out.trans (below_drewN _ _ _)
  have HB := Lib.hid hB
  clear hB
  by_cases q1 : d0 ≤ d1 / 10 * 10
  · have q1' : (d0 : Int) ≤ (d1 : Int) / 10 * 10 := by omega
    go_wp2
    go_ret2
    refine ⟨?_, HB.out⟩
    rw [← RR.out, show shortD d0 d1 d2 = (d1 / 10, true) from if_pos q1]
    rfl
  · have q1' : ¬ (d0 : Int) ≤ (d1 : Int) / 10 * 10 := by omega
    by_cases q2 : d0 < d1
    · have q2' : (d0 : Int) < (d1 : Int) := by omega
      go_wp2_with fail
      refine (fuscale m hi lo s w.heap.size hm hhi hhi1 hlo hs6 (w3.drewN (m1 + m2)) c0 c1 c2).mono ?_
      rintro r w9 ⟨rfl, m3, rfl⟩
      rw [U2.out]
      go_wp2_with fail
      refine (fround u2 (by omega) _).mono ?_
      rintro r w10 ⟨rfl, rfl⟩
      rw [show round4 u2 = d2 from D2.out]
      go_wp2
      go_ret2
      refine ⟨?_, B3.out.trans (below_drewN _ _ _)⟩
      rw [← RR.out, show shortD d0 d1 d2 = (d2, false) by unfold shortD; rw [if_neg q1, if_pos q2]]
      rfl
    · have q2' : ¬ (d0 : Int) < (d1 : Int) := by omega
      go_wp2
      go_ret2
      refine ⟨?_, HB.out⟩
      rw [← RR.out, show shortD d0 d1 d2 = (d0, false) by unfold shortD; rw [if_neg q1, if_neg q2]]
      rfl

set_option maxRecDepth 100000 in
set_option maxHeartbeats 8000000 in
theorem short64p (m : Nat) (e p : Int) (x0 x1 odd i hi lo s : Nat) (q : Int) (hm : m < 18446744073709551616) (hx0 : x0 < 18446744073709551616) (hx1 : x1 < 18446744073709551616) (ho : odd ≤ 1) (hq : e + 11 = q) (hb : ((m : Int) == 9223372036854775808) = true) (hge : -1085 < e) (hmn : (m : Int) - 512 = (x0 : Int)) (hmx : (m : Int) + 1024 = (x1 : Int)) (hod : bits BinOp.and IntKind.i64 ((m : Int) / 2048) 1 = (odd : Int))
    (he0 : -2000 ≤ e) (he1 : e ≤ 2000) (hp : sk q = -p) (hp0 : -600 ≤ p) (hp1 : p ≤ 600) (hi0 : p + 348 = i) (hi1 : i < 696) (hs : -(e + l2 p + 3) = (s : Int)) (hs5 : 5 ≤ s) (hs6 : s < 64) (hl0 : -2000 ≤ l2 p) (hl1 : l2 p ≤ 2000)
    (hent : Go.Pinned.pow10Rows.getD i (0, 0) = (hi, lo)) (hhi : hi < 18446744073709551616) (hhi1 : 1 ≤ hi) (hlo : lo < 18446744073709551616) (hu1 : odd ≤ us x1 hi lo (2 ^ s)) (w : World) (hT : PTab w.heap.size w) :
    Calls Tryz.prog 72 #[.int .u64 (m : Int), .int .i64 e] w fun r w' => r = .returned (sfOut (sfRes x0 x1 m hi lo (2 ^ s) odd) p) ∧ Below w.heap.size w w' := by
  have h7 := hT.seven
  have _he := And.intro he0 he1
  have k0 := us_small (lo := lo) hx0 hhi hs5
  have k1 := us_small (lo := lo) hx1 hhi hs5
  have k2 := us_small (lo := lo) hm hhi hs5
  have HT := Lib.hid hT
  have HP := Lib.hid hp
  have HS := Lib.hid hs
  unfold sfRes
  obtain ⟨u0, hu0⟩ : ∃ u, us x0 hi lo (2 ^ s) = u := ⟨_, rfl⟩
  obtain ⟨u1, hv1⟩ : ∃ u, us x1 hi lo (2 ^ s) = u := ⟨_, rfl⟩
  obtain ⟨u2, hu2⟩ : ∃ u, us m hi lo (2 ^ s) = u := ⟨_, rfl⟩
  rw [hu0, hv1, hu2]
  rw [hv1] at hu1 k1
  rw [hu0] at k0
  rw [hu2] at k2
  obtain ⟨d0, hd0⟩ : ∃ d, ceil4 u0 odd = d := ⟨_, rfl⟩
  obtain ⟨d1, hd1⟩ : ∃ d, floor4 u1 odd = d := ⟨_, rfl⟩
  obtain ⟨d2, hd2⟩ : ∃ d, round4 u2 = d := ⟨_, rfl⟩
  have kd0 : d0 < 1000000000000000000 := by rw [← hd0]; unfold ceil4; omega
  have kd1 : d1 < 1000000000000000000 := by rw [← hd1]; unfold floor4; omega
  have kd2 : d2 < 1000000000000000000 := by rw [← hd2]; unfold round4; omega
  rw [hd0, hd1, hd2]
  obtain ⟨rr, hrr⟩ : ∃ r, shortD d0 d1 d2 = r := ⟨_, rfl⟩
  rw [hrr]
  have RR := Lib.hid hrr
  have U0 := Lib.hid hu0
  have U1 := Lib.hid hv1
  have U2 := Lib.hid hu2
  have D0 := Lib.hid hd0
  have D1 := Lib.hid hd1
  have D2 := Lib.hid hd2
  clear hT hp hs hu0 hv1 hu2 hd0 hd1 hd2 hrr
  go_enter Tryz.func72, Tryz.ntmps72
  go_wp2_with fail
  refine (fskew q (by omega) (by omega) w).mono ?_
  rintro e1 w1 ⟨rfl, rfl⟩
  rw [HP.out]
  go_wp2_with fail
  refine (flog2 p (by omega) (by omega) _).mono ?_
  rintro e2 w2 ⟨rfl, rfl⟩
  go_wp2_with fail
  have hA : Below w.heap.size w (w.alloc (.cells #[.int .u64 0, .int .u64 0, .int .i64 0] 133)) := by go_grown
  have hk : (w.alloc (.cells #[.int .u64 0, .int .u64 0, .int .i64 0] 133)).heap[w.heap.size]? = some (.cells #[.int .u64 0, .int .u64 0, .int .i64 0] 133 (0, 0)) := by
    show (w.heap.push _)[w.heap.size]? = _
    simp
  have ht := HT.out _ hA i hi1
  rw [hent] at ht
  refine (fprescale w.heap.size e p (l2 p) i hi lo _ _ _ hi0 hi1 ⟨by omega, by omega⟩ ⟨by omega, by omega⟩ _ hk (by omega) ht.1 ht.2).mono ?_
  rintro r w3 ⟨rfl, hk3, hb3⟩
  rw [HS.out] at hk3
  have c0 : w3.cell? ⟨w.heap.size, 0, none⟩ = some (.int .u64 (hi : Int)) := by rw [cell_at hk3]; rfl
  have c1 : w3.cell? ⟨w.heap.size, 1, none⟩ = some (.int .u64 (lo : Int)) := by rw [cell_at hk3]; rfl
  have c2 : w3.cell? ⟨w.heap.size, 2, none⟩ = some (.int .i64 (s : Int)) := by rw [cell_at hk3]; rfl
  have B3 := Lib.hid (hA.trans hb3)
  clear hk3 hb3 hA hk ht
  go_wp2_with fail
  refine (fuscale x0 hi lo s w.heap.size hx0 hhi hhi1 hlo hs6 w3 c0 c1 c2).mono ?_
  rintro r w4 ⟨rfl, m1, rfl⟩
  rw [U0.out]
  go_wp2_with fail
  refine (fnudge u0 (by omega) odd (by omega) (by omega) (by omega) _).mono ?_
  rintro r w5 ⟨rfl, rfl⟩
  rw [show (u0 : Int) + (odd : Int) = ((u0 + odd : Nat) : Int) by omega]
  go_wp2_with fail
  refine (fceil (u0 + odd) (by omega) _).mono ?_
  rintro r w6 ⟨rfl, rfl⟩
  rw [show (u0 + odd + 3) / 4 = d0 from D0.out]
  go_wp2_with fail
  refine (fuscale x1 hi lo s w.heap.size hx1 hhi hhi1 hlo hs6 (w3.drewN m1) c0 c1 c2).mono ?_
  rintro r w7 ⟨rfl, m2, rfl⟩
  rw [U1.out]
  go_wp2_with fail
  refine (fnudge u1 (by omega) (-(odd : Int)) (by omega) (by omega) (by omega) _).mono ?_
  rintro r w8 ⟨rfl, rfl⟩
  rw [show (u1 : Int) + -(odd : Int) = ((u1 - odd : Nat) : Int) by omega]
  go_wp2_with fail
  refine (ffloor (u1 - odd) (by omega) _).mono ?_
  rintro r w9 ⟨rfl, rfl⟩
  rw [show (u1 - odd) / 4 = d1 from D1.out]
  have hB : Below w.heap.size w (w3.drewN (m1 + m2)) := B3.out.trans (below_drewN _ _ _)
  have HB := Lib.hid hB
  clear hB
  by_cases q1 : d0 ≤ d1 / 10 * 10
  · have q1' : (d0 : Int) ≤ (d1 : Int) / 10 * 10 := by omega
    go_wp2
    go_ret2
    refine ⟨?_, HB.out⟩
    rw [← RR.out, show shortD d0 d1 d2 = (d1 / 10, true) from if_pos q1]
    rfl
  · have q1' : ¬ (d0 : Int) ≤ (d1 : Int) / 10 * 10 := by omega
    by_cases q2 : d0 < d1
    · have q2' : (d0 : Int) < (d1 : Int) := by omega
      go_wp2_with fail
      refine (fuscale m hi lo s w.heap.size hm hhi hhi1 hlo hs6 (w3.drewN (m1 + m2)) c0 c1 c2).mono ?_
      rintro r w9 ⟨rfl, m3, rfl⟩
      rw [U2.out]
      go_wp2_with fail
      refine (fround u2 (by omega) _).mono ?_
      rintro r w10 ⟨rfl, rfl⟩
      rw [show round4 u2 = d2 from D2.out]
      go_wp2
      go_ret2
      refine ⟨?_, B3.out.trans (below_drewN _ _ _)⟩
      rw [← RR.out, show shortD d0 d1 d2 = (d2, false) by unfold shortD; rw [if_neg q1, if_pos q2]]
      rfl
    · have q2' : ¬ (d0 : Int) < (d1 : Int) := by omega
      go_wp2
      go_ret2
      refine ⟨?_, HB.out⟩
      rw [← RR.out, show shortD d0 d1 d2 = (d0, false) by unfold shortD; rw [if_neg q1, if_neg q2]]
      rfl

set_option maxRecDepth 100000 in
set_option maxHeartbeats 8000000 in
theorem short64d_false (m : Nat) (e p : Int) (x0 x1 odd i hi lo s : Nat) (q : Int) (t : Nat) (hm : m < 18446744073709551616) (hx0 : x0 < 18446744073709551616) (hx1 : x1 < 18446744073709551616) (ho : odd ≤ 1) (hz : 11 + (-1085 - e) = (t : Int) + 1) (ht : t < 63) (hq : e + ((t : Int) + 1) = q) (hb : ((m : Int) == 9223372036854775808) = false) (hge : e < -1085) (hmn : (m : Int) - IntKind.u64.wrap (2 ^ t) = (x0 : Int)) (hmx : (m : Int) + IntKind.u64.wrap (2 ^ t) = (x1 : Int)) (hod : bits BinOp.and IntKind.i64 (wrap64 ((m : Int) / 2 ^ (t + 1))) 1 = (odd : Int))
    (he0 : -2000 ≤ e) (he1 : e ≤ 2000) (hp : l10 q = -p) (hp0 : -600 ≤ p) (hp1 : p ≤ 600) (hi0 : p + 348 = i) (hi1 : i < 696) (hs : -(e + l2 p + 3) = (s : Int)) (hs5 : 5 ≤ s) (hs6 : s < 64) (hl0 : -2000 ≤ l2 p) (hl1 : l2 p ≤ 2000)
    (hent : Go.Pinned.pow10Rows.getD i (0, 0) = (hi, lo)) (hhi : hi < 18446744073709551616) (hhi1 : 1 ≤ hi) (hlo : lo < 18446744073709551616) (hu1 : odd ≤ us x1 hi lo (2 ^ s)) (w : World) (hT : PTab w.heap.size w) :
    Calls Tryz.prog 72 #[.int .u64 (m : Int), .int .i64 e] w fun r w' => r = .returned (sfOut (sfRes x0 x1 m hi lo (2 ^ s) odd) p) ∧ Below w.heap.size w w' := by
  have h7 := hT.seven
  have _he := And.intro he0 he1
  have k0 := us_small (lo := lo) hx0 hhi hs5
  have k1 := us_small (lo := lo) hx1 hhi hs5
  have k2 := us_small (lo := lo) hm hhi hs5
  have HT := Lib.hid hT
  have HP := Lib.hid hp
  have HS := Lib.hid hs
  unfold sfRes
  obtain ⟨u0, hu0⟩ : ∃ u, us x0 hi lo (2 ^ s) = u := ⟨_, rfl⟩
  obtain ⟨u1, hv1⟩ : ∃ u, us x1 hi lo (2 ^ s) = u := ⟨_, rfl⟩
  obtain ⟨u2, hu2⟩ : ∃ u, us m hi lo (2 ^ s) = u := ⟨_, rfl⟩
  rw [hu0, hv1, hu2]
  rw [hv1] at hu1 k1
  rw [hu0] at k0
  rw [hu2] at k2
  obtain ⟨d0, hd0⟩ : ∃ d, ceil4 u0 odd = d := ⟨_, rfl⟩
  obtain ⟨d1, hd1⟩ : ∃ d, floor4 u1 odd = d := ⟨_, rfl⟩
  obtain ⟨d2, hd2⟩ : ∃ d, round4 u2 = d := ⟨_, rfl⟩
  have kd0 : d0 < 1000000000000000000 := by rw [← hd0]; unfold ceil4; omega
  have kd1 : d1 < 1000000000000000000 := by rw [← hd1]; unfold floor4; omega
  have kd2 : d2 < 1000000000000000000 := by rw [← hd2]; unfold round4; omega
  rw [hd0, hd1, hd2]
  obtain ⟨rr, hrr⟩ : ∃ r, shortD d0 d1 d2 = r := ⟨_, rfl⟩
  rw [hrr]
  have RR := Lib.hid hrr
  have U0 := Lib.hid hu0
  have U1 := Lib.hid hv1
  have U2 := Lib.hid hu2
  have D0 := Lib.hid hd0
  have D1 := Lib.hid hd1
  have D2 := Lib.hid hd2
  clear hT hp hs hu0 hv1 hu2 hd0 hd1 hd2 hrr
  go_enter Tryz.func72, Tryz.ntmps72
  go_wp2_with fail
  refine (flog10 q (by omega) (by omega) w).mono ?_
  rintro e1 w1 ⟨rfl, rfl⟩
  rw [HP.out]
  go_wp2_with fail
  refine (flog2 p (by omega) (by omega) _).mono ?_
  rintro e2 w2 ⟨rfl, rfl⟩
  go_wp2_with fail
  have hA : Below w.heap.size w (w.alloc (.cells #[.int .u64 0, .int .u64 0, .int .i64 0] 133)) := by go_grown
  have hk : (w.alloc (.cells #[.int .u64 0, .int .u64 0, .int .i64 0] 133)).heap[w.heap.size]? = some (.cells #[.int .u64 0, .int .u64 0, .int .i64 0] 133 (0, 0)) := by
    show (w.heap.push _)[w.heap.size]? = _
    simp
  have ht := HT.out _ hA i hi1
  rw [hent] at ht
  refine (fprescale w.heap.size e p (l2 p) i hi lo _ _ _ hi0 hi1 ⟨by omega, by omega⟩ ⟨by omega, by omega⟩ _ hk (by omega) ht.1 ht.2).mono ?_
  rintro r w3 ⟨rfl, hk3, hb3⟩
  rw [HS.out] at hk3
  have c0 : w3.cell? ⟨w.heap.size, 0, none⟩ = some (.int .u64 (hi : Int)) := by rw [cell_at hk3]; rfl
  have c1 : w3.cell? ⟨w.heap.size, 1, none⟩ = some (.int .u64 (lo : Int)) := by rw [cell_at hk3]; rfl
  have c2 : w3.cell? ⟨w.heap.size, 2, none⟩ = some (.int .i64 (s : Int)) := by rw [cell_at hk3]; rfl
  have B3 := Lib.hid (hA.trans hb3)
  clear hk3 hb3 hA hk ht
  go_wp2_with fail
  refine (fuscale x0 hi lo s w.heap.size hx0 hhi hhi1 hlo hs6 w3 c0 c1 c2).mono ?_
  rintro r w4 ⟨rfl, m1, rfl⟩
  rw [U0.out]
  go_wp2_with fail
  refine (fnudge u0 (by omega) odd (by omega) (by omega) (by omega) _).mono ?_
  rintro r w5 ⟨rfl, rfl⟩
  rw [show (u0 : Int) + (odd : Int) = ((u0 + odd : Nat) : Int) by omega]
  go_wp2_with fail
  refine (fceil (u0 + odd) (by omega) _).mono ?_
  rintro r w6 ⟨rfl, rfl⟩
  rw [show (u0 + odd + 3) / 4 = d0 from D0.out]
  go_wp2_with fail
  refine (fuscale x1 hi lo s w.heap.size hx1 hhi hhi1 hlo hs6 (w3.drewN m1) c0 c1 c2).mono ?_
  rintro r w7 ⟨rfl, m2, rfl⟩
  rw [U1.out]
  go_wp2_with fail
  refine (fnudge u1 (by omega) (-(odd : Int)) (by omega) (by omega) (by omega) _).mono ?_
  rintro r w8 ⟨rfl, rfl⟩
  rw [show (u1 : Int) + -(odd : Int) = ((u1 - odd : Nat) : Int) by omega]
  go_wp2_with fail
  refine (ffloor (u1 - odd) (by omega) _).mono ?_
  rintro r w9 ⟨rfl, rfl⟩
  rw [show (u1 - odd) / 4 = d1 from D1.out]
  have hB : Below w.heap.size w (w3.drewN (m1 + m2)) := B3.out.trans (below_drewN _ _ _)
  have HB := Lib.hid hB
  clear hB
  by_cases q1 : d0 ≤ d1 / 10 * 10
  · have q1' : (d0 : Int) ≤ (d1 : Int) / 10 * 10 := by omega
    go_wp2
    go_ret2
    refine ⟨?_, HB.out⟩
    rw [← RR.out, show shortD d0 d1 d2 = (d1 / 10, true) from if_pos q1]
    rfl
  · have q1' : ¬ (d0 : Int) ≤ (d1 : Int) / 10 * 10 := by omega
    by_cases q2 : d0 < d1
    · have q2' : (d0 : Int) < (d1 : Int) := by omega
      go_wp2_with fail
      refine (fuscale m hi lo s w.heap.size hm hhi hhi1 hlo hs6 (w3.drewN (m1 + m2)) c0 c1 c2).mono ?_
      rintro r w9 ⟨rfl, m3, rfl⟩
      rw [U2.out]
      go_wp2_with fail
      refine (fround u2 (by omega) _).mono ?_
      rintro r w10 ⟨rfl, rfl⟩
      rw [show round4 u2 = d2 from D2.out]
      go_wp2
      go_ret2
      refine ⟨?_, B3.out.trans (below_drewN _ _ _)⟩
      rw [← RR.out, show shortD d0 d1 d2 = (d2, false) by unfold shortD; rw [if_neg q1, if_pos q2]]
      rfl
    · have q2' : ¬ (d0 : Int) < (d1 : Int) := by omega
      go_wp2
      go_ret2
      refine ⟨?_, HB.out⟩
      rw [← RR.out, show shortD d0 d1 d2 = (d0, false) by unfold shortD; rw [if_neg q1, if_neg q2]]
      rfl

set_option maxRecDepth 100000 in
set_option maxHeartbeats 8000000 in
theorem short64d_true (m : Nat) (e p : Int) (x0 x1 odd i hi lo s : Nat) (q : Int) (t : Nat) (hm : m < 18446744073709551616) (hx0 : x0 < 18446744073709551616) (hx1 : x1 < 18446744073709551616) (ho : odd ≤ 1) (hz : 11 + (-1085 - e) = (t : Int) + 1) (ht : t < 63) (hq : e + ((t : Int) + 1) = q) (hb : ((m : Int) == 9223372036854775808) = true) (hge : e < -1085) (hmn : (m : Int) - IntKind.u64.wrap (2 ^ t) = (x0 : Int)) (hmx : (m : Int) + IntKind.u64.wrap (2 ^ t) = (x1 : Int)) (hod : bits BinOp.and IntKind.i64 (wrap64 ((m : Int) / 2 ^ (t + 1))) 1 = (odd : Int))
    (he0 : -2000 ≤ e) (he1 : e ≤ 2000) (hp : l10 q = -p) (hp0 : -600 ≤ p) (hp1 : p ≤ 600) (hi0 : p + 348 = i) (hi1 : i < 696) (hs : -(e + l2 p + 3) = (s : Int)) (hs5 : 5 ≤ s) (hs6 : s < 64) (hl0 : -2000 ≤ l2 p) (hl1 : l2 p ≤ 2000)
    (hent : Go.Pinned.pow10Rows.getD i (0, 0) = (hi, lo)) (hhi : hi < 18446744073709551616) (hhi1 : 1 ≤ hi) (hlo : lo < 18446744073709551616) (hu1 : odd ≤ us x1 hi lo (2 ^ s)) (w : World) (hT : PTab w.heap.size w) :
    Calls Tryz.prog 72 #[.int .u64 (m : Int), .int .i64 e] w fun r w' => r = .returned (sfOut (sfRes x0 x1 m hi lo (2 ^ s) odd) p) ∧ Below w.heap.size w w' := by
  have h7 := hT.seven
  have _he := And.intro he0 he1
  have k0 := us_small (lo := lo) hx0 hhi hs5
  have k1 := us_small (lo := lo) hx1 hhi hs5
  have k2 := us_small (lo := lo) hm hhi hs5
  have HT := Lib.hid hT
  have HP := Lib.hid hp
  have HS := Lib.hid hs
  unfold sfRes
  obtain ⟨u0, hu0⟩ : ∃ u, us x0 hi lo (2 ^ s) = u := ⟨_, rfl⟩
  obtain ⟨u1, hv1⟩ : ∃ u, us x1 hi lo (2 ^ s) = u := ⟨_, rfl⟩
  obtain ⟨u2, hu2⟩ : ∃ u, us m hi lo (2 ^ s) = u := ⟨_, rfl⟩
  rw [hu0, hv1, hu2]
  rw [hv1] at hu1 k1
  rw [hu0] at k0
  rw [hu2] at k2
  obtain ⟨d0, hd0⟩ : ∃ d, ceil4 u0 odd = d := ⟨_, rfl⟩
  obtain ⟨d1, hd1⟩ : ∃ d, floor4 u1 odd = d := ⟨_, rfl⟩
  obtain ⟨d2, hd2⟩ : ∃ d, round4 u2 = d := ⟨_, rfl⟩
  have kd0 : d0 < 1000000000000000000 := by rw [← hd0]; unfold ceil4; omega
  have kd1 : d1 < 1000000000000000000 := by rw [← hd1]; unfold floor4; omega
  have kd2 : d2 < 1000000000000000000 := by rw [← hd2]; unfold round4; omega
  rw [hd0, hd1, hd2]
  obtain ⟨rr, hrr⟩ : ∃ r, shortD d0 d1 d2 = r := ⟨_, rfl⟩
  rw [hrr]
  have RR := Lib.hid hrr
  have U0 := Lib.hid hu0
  have U1 := Lib.hid hv1
  have U2 := Lib.hid hu2
  have D0 := Lib.hid hd0
  have D1 := Lib.hid hd1
  have D2 := Lib.hid hd2
  clear hT hp hs hu0 hv1 hu2 hd0 hd1 hd2 hrr
  go_enter Tryz.func72, Tryz.ntmps72
  go_wp2_with fail
  refine (flog10 q (by omega) (by omega) w).mono ?_
  rintro e1 w1 ⟨rfl, rfl⟩
  rw [HP.out]
  go_wp2_with fail
  refine (flog2 p (by omega) (by omega) _).mono ?_
  rintro e2 w2 ⟨rfl, rfl⟩
  go_wp2_with fail
  have hA : Below w.heap.size w (w.alloc (.cells #[.int .u64 0, .int .u64 0, .int .i64 0] 133)) := by go_grown
  have hk : (w.alloc (.cells #[.int .u64 0, .int .u64 0, .int .i64 0] 133)).heap[w.heap.size]? = some (.cells #[.int .u64 0, .int .u64 0, .int .i64 0] 133 (0, 0)) := by
    show (w.heap.push _)[w.heap.size]? = _
    simp
  have ht := HT.out _ hA i hi1
  rw [hent] at ht
  refine (fprescale w.heap.size e p (l2 p) i hi lo _ _ _ hi0 hi1 ⟨by omega, by omega⟩ ⟨by omega, by omega⟩ _ hk (by omega) ht.1 ht.2).mono ?_
  rintro r w3 ⟨rfl, hk3, hb3⟩
  rw [HS.out] at hk3
  have c0 : w3.cell? ⟨w.heap.size, 0, none⟩ = some (.int .u64 (hi : Int)) := by rw [cell_at hk3]; rfl
  have c1 : w3.cell? ⟨w.heap.size, 1, none⟩ = some (.int .u64 (lo : Int)) := by rw [cell_at hk3]; rfl
  have c2 : w3.cell? ⟨w.heap.size, 2, none⟩ = some (.int .i64 (s : Int)) := by rw [cell_at hk3]; rfl
  have B3 := Lib.hid (hA.trans hb3)
  clear hk3 hb3 hA hk ht
  go_wp2_with fail
  refine (fuscale x0 hi lo s w.heap.size hx0 hhi hhi1 hlo hs6 w3 c0 c1 c2).mono ?_
  rintro r w4 ⟨rfl, m1, rfl⟩
  rw [U0.out]
  go_wp2_with fail
  refine (fnudge u0 (by omega) odd (by omega) (by omega) (by omega) _).mono ?_
  rintro r w5 ⟨rfl, rfl⟩
  rw [show (u0 : Int) + (odd : Int) = ((u0 + odd : Nat) : Int) by omega]
  go_wp2_with fail
  refine (fceil (u0 + odd) (by omega) _).mono ?_
  rintro r w6 ⟨rfl, rfl⟩
  rw [show (u0 + odd + 3) / 4 = d0 from D0.out]
  go_wp2_with fail
  refine (fuscale x1 hi lo s w.heap.size hx1 hhi hhi1 hlo hs6 (w3.drewN m1) c0 c1 c2).mono ?_
  rintro r w7 ⟨rfl, m2, rfl⟩
  rw [U1.out]
  go_wp2_with fail
  refine (fnudge u1 (by omega) (-(odd : Int)) (by omega) (by omega) (by omega) _).mono ?_
  rintro r w8 ⟨rfl, rfl⟩
  rw [show (u1 : Int) + -(odd : Int) = ((u1 - odd : Nat) : Int) by omega]
  go_wp2_with fail
  refine (ffloor (u1 - odd) (by omega) _).mono ?_
  rintro r w9 ⟨rfl, rfl⟩
  rw [show (u1 - odd) / 4 = d1 from D1.out]
  have hB : Below w.heap.size w (w3.drewN (m1 + m2)) := B3.out.trans (below_drewN _ _ _)
  have HB := Lib.hid hB
  clear hB
  by_cases q1 : d0 ≤ d1 / 10 * 10
  · have q1' : (d0 : Int) ≤ (d1 : Int) / 10 * 10 := by omega
    go_wp2
    go_ret2
    refine ⟨?_, HB.out⟩
    rw [← RR.out, show shortD d0 d1 d2 = (d1 / 10, true) from if_pos q1]
    rfl
  · have q1' : ¬ (d0 : Int) ≤ (d1 : Int) / 10 * 10 := by omega
    by_cases q2 : d0 < d1
    · have q2' : (d0 : Int) < (d1 : Int) := by omega
      go_wp2_with fail
      refine (fuscale m hi lo s w.heap.size hm hhi hhi1 hlo hs6 (w3.drewN (m1 + m2)) c0 c1 c2).mono ?_
      rintro r w9 ⟨rfl, m3, rfl⟩
      rw [U2.out]
      go_wp2_with fail
      refine (fround u2 (by omega) _).mono ?_
      rintro r w10 ⟨rfl, rfl⟩
      rw [show round4 u2 = d2 from D2.out]
      go_wp2
      go_ret2
      refine ⟨?_, B3.out.trans (below_drewN _ _ _)⟩
      rw [← RR.out, show shortD d0 d1 d2 = (d2, false) by unfold shortD; rw [if_neg q1, if_pos q2]]
      rfl
    · have q2' : ¬ (d0 : Int) < (d1 : Int) := by omega
      go_wp2
      go_ret2
      refine ⟨?_, HB.out⟩
      rw [← RR.out, show shortD d0 d1 d2 = (d0, false) by unfold shortD; rw [if_neg q1, if_neg q2]]
      rfl

set_option maxRecDepth 100000 in
set_option maxHeartbeats 8000000 in
theorem short32n_false (m : Nat) (e p : Int) (x0 x1 odd i hi lo s : Nat) (q : Int) (hm : m < 18446744073709551616) (hx0 : x0 < 18446744073709551616) (hx1 : x1 < 18446744073709551616) (ho : odd ≤ 1) (hq : e + 40 = q) (hb : ((m : Int) == 9223372036854775808) = false) (hge : -189 ≤ e) (hmn : (m : Int) - 549755813888 = (x0 : Int)) (hmx : (m : Int) + 549755813888 = (x1 : Int)) (hod : bits BinOp.and IntKind.i64 ((m : Int) / 1099511627776) 1 = (odd : Int))
    (he0 : -2000 ≤ e) (he1 : e ≤ 2000) (hp : l10 q = -p) (hp0 : -600 ≤ p) (hp1 : p ≤ 600) (hi0 : p + 348 = i) (hi1 : i < 696) (hs : -(e + l2 p + 3) = (s : Int)) (hs5 : 5 ≤ s) (hs6 : s < 64) (hl0 : -2000 ≤ l2 p) (hl1 : l2 p ≤ 2000)
    (hent : Go.Pinned.pow10Rows.getD i (0, 0) = (hi, lo)) (hhi : hi < 18446744073709551616) (hhi1 : 1 ≤ hi) (hlo : lo < 18446744073709551616) (hu1 : odd ≤ us x1 hi lo (2 ^ s)) (w : World) (hT : PTab w.heap.size w) :
    Calls Tryz.prog 64 #[.int .u64 (m : Int), .int .i64 e] w fun r w' => r = .returned (sfOut (sfRes x0 x1 m hi lo (2 ^ s) odd) p) ∧ Below w.heap.size w w' := by
  have h7 := hT.seven
  have _he := And.intro he0 he1
  have k0 := us_small (lo := lo) hx0 hhi hs5
  have k1 := us_small (lo := lo) hx1 hhi hs5
  have k2 := us_small (lo := lo) hm hhi hs5
  have HT := Lib.hid hT
  have HP := Lib.hid hp
  have HS := Lib.hid hs
  unfold sfRes
  obtain ⟨u0, hu0⟩ : ∃ u, us x0 hi lo (2 ^ s) = u := ⟨_, rfl⟩
  obtain ⟨u1, hv1⟩ : ∃ u, us x1 hi lo (2 ^ s) = u := ⟨_, rfl⟩
  obtain ⟨u2, hu2⟩ : ∃ u, us m hi lo (2 ^ s) = u := ⟨_, rfl⟩
  rw [hu0, hv1, hu2]
  rw [hv1] at hu1 k1
  rw [hu0] at k0
  rw [hu2] at k2
  obtain ⟨d0, hd0⟩ : ∃ d, ceil4 u0 odd = d := ⟨_, rfl⟩
  obtain ⟨d1, hd1⟩ : ∃ d, floor4 u1 odd = d := ⟨_, rfl⟩
  obtain ⟨d2, hd2⟩ : ∃ d, round4 u2 = d := ⟨_, rfl⟩
  have kd0 : d0 < 1000000000000000000 := by rw [← hd0]; unfold ceil4; omega
  have kd1 : d1 < 1000000000000000000 := by rw [← hd1]; unfold floor4; omega
  have kd2 : d2 < 1000000000000000000 := by rw [← hd2]; unfold round4; omega
  rw [hd0, hd1, hd2]
  obtain ⟨rr, hrr⟩ : ∃ r, shortD d0 d1 d2 = r := ⟨_, rfl⟩
  rw [hrr]
  have RR := Lib.hid hrr
  have U0 := Lib.hid hu0
  have U1 := Lib.hid hv1
  have U2 := Lib.hid hu2
  have D0 := Lib.hid hd0
  have D1 := Lib.hid hd1
  have D2 := Lib.hid hd2
  clear hT hp hs hu0 hv1 hu2 hd0 hd1 hd2 hrr
  go_enter Tryz.func64, Tryz.ntmps64
  go_wp2_with fail
  refine (flog10 q (by omega) (by omega) w).mono ?_
  rintro e1 w1 ⟨rfl, rfl⟩
  rw [HP.out]
  go_wp2_with fail
  refine (flog2 p (by omega) (by omega) _).mono ?_
  rintro e2 w2 ⟨rfl, rfl⟩
  go_wp2_with fail
  have hA : Below w.heap.size w (w.alloc (.cells #[.int .u64 0, .int .u64 0, .int .i64 0] 133)) := by go_grown
  have hk : (w.alloc (.cells #[.int .u64 0, .int .u64 0, .int .i64 0] 133)).heap[w.heap.size]? = some (.cells #[.int .u64 0, .int .u64 0, .int .i64 0] 133 (0, 0)) := by
    show (w.heap.push _)[w.heap.size]? = _
    simp
  have ht := HT.out _ hA i hi1
  rw [hent] at ht
  refine (fprescale w.heap.size e p (l2 p) i hi lo _ _ _ hi0 hi1 ⟨by omega, by omega⟩ ⟨by omega, by omega⟩ _ hk (by omega) ht.1 ht.2).mono ?_
  rintro r w3 ⟨rfl, hk3, hb3⟩
  rw [HS.out] at hk3
  have c0 : w3.cell? ⟨w.heap.size, 0, none⟩ = some (.int .u64 (hi : Int)) := by rw [cell_at hk3]; rfl
  have c1 : w3.cell? ⟨w.heap.size, 1, none⟩ = some (.int .u64 (lo : Int)) := by rw [cell_at hk3]; rfl
  have c2 : w3.cell? ⟨w.heap.size, 2, none⟩ = some (.int .i64 (s : Int)) := by rw [cell_at hk3]; rfl
  have B3 := Lib.hid (hA.trans hb3)
  clear hk3 hb3 hA hk ht
  go_wp2_with fail
  refine (fuscale x0 hi lo s w.heap.size hx0 hhi hhi1 hlo hs6 w3 c0 c1 c2).mono ?_
  rintro r w4 ⟨rfl, m1, rfl⟩
  rw [U0.out]
  go_wp2_with fail
  refine (fnudge u0 (by omega) odd (by omega) (by omega) (by omega) _).mono ?_
  rintro r w5 ⟨rfl, rfl⟩
  rw [show (u0 : Int) + (odd : Int) = ((u0 + odd : Nat) : Int) by omega]
  go_wp2_with fail
  refine (fceil (u0 + odd) (by omega) _).mono ?_
  rintro r w6 ⟨rfl, rfl⟩
  rw [show (u0 + odd + 3) / 4 = d0 from D0.out]
  go_wp2_with fail
  refine (fuscale x1 hi lo s w.heap.size hx1 hhi hhi1 hlo hs6 (w3.drewN m1) c0 c1 c2).mono ?_
  rintro r w7 ⟨rfl, m2, rfl⟩
  rw [U1.out]
  go_wp2_with fail
  refine (fnudge u1 (by omega) (-(odd : Int)) (by omega) (by omega) (by omega) _).mono ?_
  rintro r w8 ⟨rfl, rfl⟩
  rw [show (u1 : Int) + -(odd : Int) = ((u1 - odd : Nat) : Int) by omega]
  go_wp2_with fail
  refine (ffloor (u1 - odd) (by omega) _).mono ?_
  rintro r w9 ⟨rfl, rfl⟩
  rw [show (u1 - odd) / 4 = d1 from D1.out]
  have hB : Below w.heap.size w (w3.drewN (m1 + m2)) := B3.out.trans (below_drewN _ _ _)
  have HB := Lib.hid hB
  clear hB
  by_cases q1 : d0 ≤ d1 / 10 * 10
  · have q1' : (d0 : Int) ≤ (d1 : Int) / 10 * 10 := by omega
    go_wp2
    go_ret2
    refine ⟨?_, HB.out⟩
    rw [← RR.out, show shortD d0 d1 d2 = (d1 / 10, true) from if_pos q1]
    rfl
  · have q1' : ¬ (d0 : Int) ≤ (d1 : Int) / 10 * 10 := by omega
    by_cases q2 : d0 < d1
    · have q2' : (d0 : Int) < (d1 : Int) := by omega
      go_wp2_with fail
      refine (fuscale m hi lo s w.heap.size hm hhi hhi1 hlo hs6 (w3.drewN (m1 + m2)) c0 c1 c2).mono ?_
      rintro r w9 ⟨rfl, m3, rfl⟩
      rw [U2.out]
      go_wp2_with fail
      refine (fround u2 (by omega) _).mono ?_
      rintro r w10 ⟨rfl, rfl⟩
      rw [show round4 u2 = d2 from D2.out]
      go_wp2
      go_ret2
      refine ⟨?_, B3.out.trans (below_drewN _ _ _)⟩
      rw [← RR.out, show shortD d0 d1 d2 = (d2, false) by unfold shortD; rw [if_neg q1, if_pos q2]]
      rfl
    · have q2' : ¬ (d0 : Int) < (d1 : Int) := by omega
      go_wp2
      go_ret2
      refine ⟨?_, HB.out⟩
      rw [← RR.out, show shortD d0 d1 d2 = (d0, false) by unfold shortD; rw [if_neg q1, if_neg q2]]
      rfl

set_option maxRecDepth 100000 in
set_option maxHeartbeats 8000000 in
theorem short32n_true (m : Nat) (e p : Int) (x0 x1 odd i hi lo s : Nat) (q : Int) (hm : m < 18446744073709551616) (hx0 : x0 < 18446744073709551616) (hx1 : x1 < 18446744073709551616) (ho : odd ≤ 1) (hq : e + 40 = q) (hb : ((m : Int) == 9223372036854775808) = true) (hbe : e ≤ -189) (hge : -189 ≤ e) (hmn : (m : Int) - 549755813888 = (x0 : Int)) (hmx : (m : Int) + 549755813888 = (x1 : Int)) (hod : bits BinOp.and IntKind.i64 ((m : Int) / 1099511627776) 1 = (odd : Int))
    (he0 : -2000 ≤ e) (he1 : e ≤ 2000) (hp : l10 q = -p) (hp0 : -600 ≤ p) (hp1 : p ≤ 600) (hi0 : p + 348 = i) (hi1 : i < 696) (hs : -(e + l2 p + 3) = (s : Int)) (hs5 : 5 ≤ s) (hs6 : s < 64) (hl0 : -2000 ≤ l2 p) (hl1 : l2 p ≤ 2000)
    (hent : Go.Pinned.pow10Rows.getD i (0, 0) = (hi, lo)) (hhi : hi < 18446744073709551616) (hhi1 : 1 ≤ hi) (hlo : lo < 18446744073709551616) (hu1 : odd ≤ us x1 hi lo (2 ^ s)) (w : World) (hT : PTab w.heap.size w) :
    Calls Tryz.prog 64 #[.int .u64 (m : Int), .int .i64 e] w fun r w' => r = .returned (sfOut (sfRes x0 x1 m hi lo (2 ^ s) odd) p) ∧ Below w.heap.size w w' := by
  have h7 := hT.seven
  have _he := And.intro he0 he1
  have k0 := us_small (lo := lo) hx0 hhi hs5
  have k1 := us_small (lo := lo) hx1 hhi hs5
  have k2 := us_small (lo := lo) hm hhi hs5
  have HT := Lib.hid hT
  have HP := Lib.hid hp
  have HS := Lib.hid hs
  unfold sfRes
  obtain ⟨u0, hu0⟩ : ∃ u, us x0 hi lo (2 ^ s) = u := ⟨_, rfl⟩
  obtain ⟨u1, hv1⟩ : ∃ u, us x1 hi lo (2 ^ s) = u := ⟨_, rfl⟩
  obtain ⟨u2, hu2⟩ : ∃ u, us m hi lo (2 ^ s) = u := ⟨_, rfl⟩
  rw [hu0, hv1, hu2]
  rw [hv1] at hu1 k1
  rw [hu0] at k0
  rw [hu2] at k2
  obtain ⟨d0, hd0⟩ : ∃ d, ceil4 u0 odd = d := ⟨_, rfl⟩
  obtain ⟨d1, hd1⟩ : ∃ d, floor4 u1 odd = d := ⟨_, rfl⟩
  obtain ⟨d2, hd2⟩ : ∃ d, round4 u2 = d := ⟨_, rfl⟩
  have kd0 : d0 < 1000000000000000000 := by rw [← hd0]; unfold ceil4; omega
  have kd1 : d1 < 1000000000000000000 := by rw [← hd1]; unfold floor4; omega
  have kd2 : d2 < 1000000000000000000 := by rw [← hd2]; unfold round4; omega
  rw [hd0, hd1, hd2]
  obtain ⟨rr, hrr⟩ : ∃ r, shortD d0 d1 d2 = r := ⟨_, rfl⟩
  rw [hrr]
  have RR := Lib.hid hrr
  have U0 := Lib.hid hu0
  have U1 := Lib.hid hv1
  have U2 := Lib.hid hu2
  have D0 := Lib.hid hd0
  have D1 := Lib.hid hd1
  have D2 := Lib.hid hd2
  clear hT hp hs hu0 hv1 hu2 hd0 hd1 hd2 hrr
  go_enter Tryz.func64, Tryz.ntmps64
  go_wp2_with fail
  refine (flog10 q (by omega) (by omega) w).mono ?_
  rintro e1 w1 ⟨rfl, rfl⟩
  rw [HP.out]
  go_wp2_with fail
  refine (flog2 p (by omega) (by omega) _).mono ?_
  rintro e2 w2 ⟨rfl, rfl⟩
  go_wp2_with fail
  have hA : Below w.heap.size w (w.alloc (.cells #[.int .u64 0, .int .u64 0, .int .i64 0] 133)) := by go_grown
  have hk : (w.alloc (.cells #[.int .u64 0, .int .u64 0, .int .i64 0] 133)).heap[w.heap.size]? = some (.cells #[.int .u64 0, .int .u64 0, .int .i64 0] 133 (0, 0)) := by
    show (w.heap.push _)[w.heap.size]? = _
    simp
  have ht := HT.out _ hA i hi1
  rw [hent] at ht
  refine (fprescale w.heap.size e p (l2 p) i hi lo _ _ _ hi0 hi1 ⟨by omega, by omega⟩ ⟨by omega, by omega⟩ _ hk (by omega) ht.1 ht.2).mono ?_
  rintro r w3 ⟨rfl, hk3, hb3⟩
  rw [HS.out] at hk3
  have c0 : w3.cell? ⟨w.heap.size, 0, none⟩ = some (.int .u64 (hi : Int)) := by rw [cell_at hk3]; rfl
  have c1 : w3.cell? ⟨w.heap.size, 1, none⟩ = some (.int .u64 (lo : Int)) := by rw [cell_at hk3]; rfl
  have c2 : w3.cell? ⟨w.heap.size, 2, none⟩ = some (.int .i64 (s : Int)) := by rw [cell_at hk3]; rfl
  have B3 := Lib.hid (hA.trans hb3)
  clear hk3 hb3 hA hk ht
  go_wp2_with fail
  refine (fuscale x0 hi lo s w.heap.size hx0 hhi hhi1 hlo hs6 w3 c0 c1 c2).mono ?_
  rintro r w4 ⟨rfl, m1, rfl⟩
  rw [U0.out]
  go_wp2_with fail
  refine (fnudge u0 (by omega) odd (by omega) (by omega) (by omega) _).mono ?_
  rintro r w5 ⟨rfl, rfl⟩
  rw [show (u0 : Int) + (odd : Int) = ((u0 + odd : Nat) : Int) by omega]
  go_wp2_with fail
  refine (fceil (u0 + odd) (by omega) _).mono ?_
  rintro r w6 ⟨rfl, rfl⟩
  rw [show (u0 + odd + 3) / 4 = d0 from D0.out]
  go_wp2_with fail
  refine (fuscale x1 hi lo s w.heap.size hx1 hhi hhi1 hlo hs6 (w3.drewN m1) c0 c1 c2).mono ?_
  rintro r w7 ⟨rfl, m2, rfl⟩
  rw [U1.out]
  go_wp2_with fail
  refine (fnudge u1 (by omega) (-(odd : Int)) (by omega) (by omega) (by omega) _).mono ?_
  rintro r w8 ⟨rfl, rfl⟩
  rw [show (u1 : Int) + -(odd : Int) = ((u1 - odd : Nat) : Int) by omega]
  go_wp2_with fail
  refine (ffloor (u1 - odd) (by omega) _).mono ?_
  rintro r w9 ⟨rfl, rfl⟩
  rw [show (u1 - odd) / 4 = d1 from D1.out]
  have hB : Below w.heap.size w (w3.drewN (m1 + m2)) := B3.out.trans (below_drewN _ _ _)
  have HB := Lib.hid hB
  clear hB
  by_cases q1 : d0 ≤ d1 / 10 * 10
  · have q1' : (d0 : Int) ≤ (d1 : Int) / 10 * 10 := by omega
    go_wp2
    go_ret2
    refine ⟨?_, HB.out⟩
    rw [← RR.out, show shortD d0 d1 d2 = (d1 / 10, true) from if_pos q1]
    rfl
  · have q1' : ¬ (d0 : Int) ≤ (d1 : Int) / 10 * 10 := by omega
    by_cases q2 : d0 < d1
    · have q2' : (d0 : Int) < (d1 : Int) := by omega
      go_wp2_with fail
      refine (fuscale m hi lo s w.heap.size hm hhi hhi1 hlo hs6 (w3.drewN (m1 + m2)) c0 c1 c2).mono ?_
      rintro r w9 ⟨rfl, m3, rfl⟩
      rw [U2.out]
      go_wp2_with fail
      refine (fround u2 (by omega) _).mono ?_
      rintro r w10 ⟨rfl, rfl⟩
      rw [show round4 u2 = d2 from D2.out]
      go_wp2
      go_ret2
      refine ⟨?_, B3.out.trans (below_drewN _ _ _)⟩
      rw [← RR.out, show shortD d0 d1 d2 = (d2, false) by unfold shortD; rw [if_neg q1, if_pos q2]]
      rfl
    · have q2' : ¬ (d0 : Int) < (d1 : Int) := by omega
      go_wp2
      go_ret2
      refine ⟨?_, HB.out⟩
      rw [← RR.out, show shortD d0 d1 d2 = (d0, false) by unfold shortD; rw [if_neg q1, if_neg q2]]
      rfl

set_option maxRecDepth 100000 in
set_option maxHeartbeats 8000000 in
theorem short32p (m : Nat) (e p : Int) (x0 x1 odd i hi lo s : Nat) (q : Int) (hm : m < 18446744073709551616) (hx0 : x0 < 18446744073709551616) (hx1 : x1 < 18446744073709551616) (ho : odd ≤ 1) (hq : e + 40 = q) (hb : ((m : Int) == 9223372036854775808) = true) (hge : -189 < e) (hmn : (m : Int) - 274877906944 = (x0 : Int)) (hmx : (m : Int) + 549755813888 = (x1 : Int)) (hod : bits BinOp.and IntKind.i64 ((m : Int) / 1099511627776) 1 = (odd : Int))
    (he0 : -2000 ≤ e) (he1 : e ≤ 2000) (hp : sk q = -p) (hp0 : -600 ≤ p) (hp1 : p ≤ 600) (hi0 : p + 348 = i) (hi1 : i < 696) (hs : -(e + l2 p + 3) = (s : Int)) (hs5 : 5 ≤ s) (hs6 : s < 64) (hl0 : -2000 ≤ l2 p) (hl1 : l2 p ≤ 2000)
    (hent : Go.Pinned.pow10Rows.getD i (0, 0) = (hi, lo)) (hhi : hi < 18446744073709551616) (hhi1 : 1 ≤ hi) (hlo : lo < 18446744073709551616) (hu1 : odd ≤ us x1 hi lo (2 ^ s)) (w : World) (hT : PTab w.heap.size w) :
    Calls Tryz.prog 64 #[.int .u64 (m : Int), .int .i64 e] w fun r w' => r = .returned (sfOut (sfRes x0 x1 m hi lo (2 ^ s) odd) p) ∧ Below w.heap.size w w' := by
  have h7 := hT.seven
  have _he := And.intro he0 he1
  have k0 := us_small (lo := lo) hx0 hhi hs5
  have k1 := us_small (lo := lo) hx1 hhi hs5
  have k2 := us_small (lo := lo) hm hhi hs5
  have HT := Lib.hid hT
  have HP := Lib.hid hp
  have HS := Lib.hid hs
  unfold sfRes
  obtain ⟨u0, hu0⟩ : ∃ u, us x0 hi lo (2 ^ s) = u := ⟨_, rfl⟩
  obtain ⟨u1, hv1⟩ : ∃ u, us x1 hi lo (2 ^ s) = u := ⟨_, rfl⟩
  obtain ⟨u2, hu2⟩ : ∃ u, us m hi lo (2 ^ s) = u := ⟨_, rfl⟩
  rw [hu0, hv1, hu2]
  rw [hv1] at hu1 k1
  rw [hu0] at k0
  rw [hu2] at k2
  obtain ⟨d0, hd0⟩ : ∃ d, ceil4 u0 odd = d := ⟨_, rfl⟩
  obtain ⟨d1, hd1⟩ : ∃ d, floor4 u1 odd = d := ⟨_, rfl⟩
  obtain ⟨d2, hd2⟩ : ∃ d, round4 u2 = d := ⟨_, rfl⟩
  have kd0 : d0 < 1000000000000000000 := by rw [← hd0]; unfold ceil4; omega
  have kd1 : d1 < 1000000000000000000 := by rw [← hd1]; unfold floor4; omega
  have kd2 : d2 < 1000000000000000000 := by rw [← hd2]; unfold round4; omega
  rw [hd0, hd1, hd2]
  obtain ⟨rr, hrr⟩ : ∃ r, shortD d0 d1 d2 = r := ⟨_, rfl⟩
  rw [hrr]
  have RR := Lib.hid hrr
  have U0 := Lib.hid hu0
  have U1 := Lib.hid hv1
  have U2 := Lib.hid hu2
  have D0 := Lib.hid hd0
  have D1 := Lib.hid hd1
  have D2 := Lib.hid hd2
  clear hT hp hs hu0 hv1 hu2 hd0 hd1 hd2 hrr
  go_enter Tryz.func64, Tryz.ntmps64
  go_wp2_with fail
  refine (fskew q (by omega) (by omega) w).mono ?_
  rintro e1 w1 ⟨rfl, rfl⟩
  rw [HP.out]
  go_wp2_with fail
  refine (flog2 p (by omega) (by omega) _).mono ?_
  rintro e2 w2 ⟨rfl, rfl⟩
  go_wp2_with fail
  have hA : Below w.heap.size w (w.alloc (.cells #[.int .u64 0, .int .u64 0, .int .i64 0] 133)) := by go_grown
  have hk : (w.alloc (.cells #[.int .u64 0, .int .u64 0, .int .i64 0] 133)).heap[w.heap.size]? = some (.cells #[.int .u64 0, .int .u64 0, .int .i64 0] 133 (0, 0)) := by
    show (w.heap.push _)[w.heap.size]? = _
    simp
  have ht := HT.out _ hA i hi1
  rw [hent] at ht
  refine (fprescale w.heap.size e p (l2 p) i hi lo _ _ _ hi0 hi1 ⟨by omega, by omega⟩ ⟨by omega, by omega⟩ _ hk (by omega) ht.1 ht.2).mono ?_
  rintro r w3 ⟨rfl, hk3, hb3⟩
  rw [HS.out] at hk3
  have c0 : w3.cell? ⟨w.heap.size, 0, none⟩ = some (.int .u64 (hi : Int)) := by rw [cell_at hk3]; rfl
  have c1 : w3.cell? ⟨w.heap.size, 1, none⟩ = some (.int .u64 (lo : Int)) := by rw [cell_at hk3]; rfl
  have c2 : w3.cell? ⟨w.heap.size, 2, none⟩ = some (.int .i64 (s : Int)) := by rw [cell_at hk3]; rfl
  have B3 := Lib.hid (hA.trans hb3)
  clear hk3 hb3 hA hk ht
  go_wp2_with fail
  refine (fuscale x0 hi lo s w.heap.size hx0 hhi hhi1 hlo hs6 w3 c0 c1 c2).mono ?_
  rintro r w4 ⟨rfl, m1, rfl⟩
  rw [U0.out]
  go_wp2_with fail
  refine (fnudge u0 (by omega) odd (by omega) (by omega) (by omega) _).mono ?_
  rintro r w5 ⟨rfl, rfl⟩
  rw [show (u0 : Int) + (odd : Int) = ((u0 + odd : Nat) : Int) by omega]
  go_wp2_with fail
  refine (fceil (u0 + odd) (by omega) _).mono ?_
  rintro r w6 ⟨rfl, rfl⟩
  rw [show (u0 + odd + 3) / 4 = d0 from D0.out]
  go_wp2_with fail
  refine (fuscale x1 hi lo s w.heap.size hx1 hhi hhi1 hlo hs6 (w3.drewN m1) c0 c1 c2).mono ?_
  rintro r w7 ⟨rfl, m2, rfl⟩
  rw [U1.out]
  go_wp2_with fail
  refine (fnudge u1 (by omega) (-(odd : Int)) (by omega) (by omega) (by omega) _).mono ?_
  rintro r w8 ⟨rfl, rfl⟩
  rw [show (u1 : Int) + -(odd : Int) = ((u1 - odd : Nat) : Int) by omega]
  go_wp2_with fail
  refine (ffloor (u1 - odd) (by omega) _).mono ?_
  rintro r w9 ⟨rfl, rfl⟩
  rw [show (u1 - odd) / 4 = d1 from D1.out]
  have hB : Below w.heap.size w (w3.drewN (m1 + m2)) := B3.out.trans (below_drewN _ _ _)
  have HB := Lib.hid hB
  clear hB
  by_cases q1 : d0 ≤ d1 / 10 * 10
  · have q1' : (d0 : Int) ≤ (d1 : Int) / 10 * 10 := by omega
    go_wp2
    go_ret2
    refine ⟨?_, HB.out⟩
    rw [← RR.out, show shortD d0 d1 d2 = (d1 / 10, true) from if_pos q1]
    rfl
  · have q1' : ¬ (d0 : Int) ≤ (d1 : Int) / 10 * 10 := by omega
    by_cases q2 : d0 < d1
    · have q2' : (d0 : Int) < (d1 : Int) := by omega
      go_wp2_with fail
      refine (fuscale m hi lo s w.heap.size hm hhi hhi1 hlo hs6 (w3.drewN (m1 + m2)) c0 c1 c2).mono ?_
      rintro r w9 ⟨rfl, m3, rfl⟩
      rw [U2.out]
      go_wp2_with fail
      refine (fround u2 (by omega) _).mono ?_
      rintro r w10 ⟨rfl, rfl⟩
      rw [show round4 u2 = d2 from D2.out]
      go_wp2
      go_ret2
      refine ⟨?_, B3.out.trans (below_drewN _ _ _)⟩
      rw [← RR.out, show shortD d0 d1 d2 = (d2, false) by unfold shortD; rw [if_neg q1, if_pos q2]]
      rfl
    · have q2' : ¬ (d0 : Int) < (d1 : Int) := by omega
      go_wp2
      go_ret2
      refine ⟨?_, HB.out⟩
      rw [← RR.out, show shortD d0 d1 d2 = (d0, false) by unfold shortD; rw [if_neg q1, if_neg q2]]
      rfl

set_option maxRecDepth 100000 in
set_option maxHeartbeats 8000000 in
theorem short32d_false (m : Nat) (e p : Int) (x0 x1 odd i hi lo s : Nat) (q : Int) (t : Nat) (hm : m < 18446744073709551616) (hx0 : x0 < 18446744073709551616) (hx1 : x1 < 18446744073709551616) (ho : odd ≤ 1) (hz : 40 + (-189 - e) = (t : Int) + 1) (ht : t < 63) (hq : e + ((t : Int) + 1) = q) (hb : ((m : Int) == 9223372036854775808) = false) (hge : e < -189) (hmn : (m : Int) - IntKind.u64.wrap (2 ^ t) = (x0 : Int)) (hmx : (m : Int) + IntKind.u64.wrap (2 ^ t) = (x1 : Int)) (hod : bits BinOp.and IntKind.i64 (wrap64 ((m : Int) / 2 ^ (t + 1))) 1 = (odd : Int))
    (he0 : -2000 ≤ e) (he1 : e ≤ 2000) (hp : l10 q = -p) (hp0 : -600 ≤ p) (hp1 : p ≤ 600) (hi0 : p + 348 = i) (hi1 : i < 696) (hs : -(e + l2 p + 3) = (s : Int)) (hs5 : 5 ≤ s) (hs6 : s < 64) (hl0 : -2000 ≤ l2 p) (hl1 : l2 p ≤ 2000)
    (hent : Go.Pinned.pow10Rows.getD i (0, 0) = (hi, lo)) (hhi : hi < 18446744073709551616) (hhi1 : 1 ≤ hi) (hlo : lo < 18446744073709551616) (hu1 : odd ≤ us x1 hi lo (2 ^ s)) (w : World) (hT : PTab w.heap.size w) :
    Calls Tryz.prog 64 #[.int .u64 (m : Int), .int .i64 e] w fun r w' => r = .returned (sfOut (sfRes x0 x1 m hi lo (2 ^ s) odd) p) ∧ Below w.heap.size w w' := by
  have h7 := hT.seven
  have _he := And.intro he0 he1
  have k0 := us_small (lo := lo) hx0 hhi hs5
  have k1 := us_small (lo := lo) hx1 hhi hs5
  have k2 := us_small (lo := lo) hm hhi hs5
  have HT := Lib.hid hT
  have HP := Lib.hid hp
  have HS := Lib.hid hs
  unfold sfRes
  obtain ⟨u0, hu0⟩ : ∃ u, us x0 hi lo (2 ^ s) = u := ⟨_, rfl⟩
  obtain ⟨u1, hv1⟩ : ∃ u, us x1 hi lo (2 ^ s) = u := ⟨_, rfl⟩
  obtain ⟨u2, hu2⟩ : ∃ u, us m hi lo (2 ^ s) = u := ⟨_, rfl⟩
  rw [hu0, hv1, hu2]
  rw [hv1] at hu1 k1
  rw [hu0] at k0
  rw [hu2] at k2
  obtain ⟨d0, hd0⟩ : ∃ d, ceil4 u0 odd = d := ⟨_, rfl⟩
  obtain ⟨d1, hd1⟩ : ∃ d, floor4 u1 odd = d := ⟨_, rfl⟩
  obtain ⟨d2, hd2⟩ : ∃ d, round4 u2 = d := ⟨_, rfl⟩
  have kd0 : d0 < 1000000000000000000 := by rw [← hd0]; unfold ceil4; omega
  have kd1 : d1 < 1000000000000000000 := by rw [← hd1]; unfold floor4; omega
  have kd2 : d2 < 1000000000000000000 := by rw [← hd2]; unfold round4; omega
  rw [hd0, hd1, hd2]
  obtain ⟨rr, hrr⟩ : ∃ r, shortD d0 d1 d2 = r := ⟨_, rfl⟩
  rw [hrr]
  have RR := Lib.hid hrr
  have U0 := Lib.hid hu0
  have U1 := Lib.hid hv1
  have U2 := Lib.hid hu2
  have D0 := Lib.hid hd0
  have D1 := Lib.hid hd1
  have D2 := Lib.hid hd2
  clear hT hp hs hu0 hv1 hu2 hd0 hd1 hd2 hrr
  go_enter Tryz.func64, Tryz.ntmps64
  go_wp2_with fail
  refine (flog10 q (by omega) (by omega) w).mono ?_
  rintro e1 w1 ⟨rfl, rfl⟩
  rw [HP.out]
  go_wp2_with fail
  refine (flog2 p (by omega) (by omega) _).mono ?_
  rintro e2 w2 ⟨rfl, rfl⟩
  go_wp2_with fail
  have hA : Below w.heap.size w (w.alloc (.cells #[.int .u64 0, .int .u64 0, .int .i64 0] 133)) := by go_grown
  have hk : (w.alloc (.cells #[.int .u64 0, .int .u64 0, .int .i64 0] 133)).heap[w.heap.size]? = some (.cells #[.int .u64 0, .int .u64 0, .int .i64 0] 133 (0, 0)) := by
    show (w.heap.push _)[w.heap.size]? = _
    simp
  have ht := HT.out _ hA i hi1
  rw [hent] at ht
  refine (fprescale w.heap.size e p (l2 p) i hi lo _ _ _ hi0 hi1 ⟨by omega, by omega⟩ ⟨by omega, by omega⟩ _ hk (by omega) ht.1 ht.2).mono ?_
  rintro r w3 ⟨rfl, hk3, hb3⟩
  rw [HS.out] at hk3
  have c0 : w3.cell? ⟨w.heap.size, 0, none⟩ = some (.int .u64 (hi : Int)) := by rw [cell_at hk3]; rfl
  have c1 : w3.cell? ⟨w.heap.size, 1, none⟩ = some (.int .u64 (lo : Int)) := by rw [cell_at hk3]; rfl
  have c2 : w3.cell? ⟨w.heap.size, 2, none⟩ = some (.int .i64 (s : Int)) := by rw [cell_at hk3]; rfl
  have B3 := Lib.hid (hA.trans hb3)
  clear hk3 hb3 hA hk ht
  go_wp2_with fail
  refine (fuscale x0 hi lo s w.heap.size hx0 hhi hhi1 hlo hs6 w3 c0 c1 c2).mono ?_
  rintro r w4 ⟨rfl, m1, rfl⟩
  rw [U0.out]
  go_wp2_with fail
  refine (fnudge u0 (by omega) odd (by omega) (by omega) (by omega) _).mono ?_
  rintro r w5 ⟨rfl, rfl⟩
  rw [show (u0 : Int) + (odd : Int) = ((u0 + odd : Nat) : Int) by omega]
  go_wp2_with fail
  refine (fceil (u0 + odd) (by omega) _).mono ?_
  rintro r w6 ⟨rfl, rfl⟩
  rw [show (u0 + odd + 3) / 4 = d0 from D0.out]
  go_wp2_with fail
  refine (fuscale x1 hi lo s w.heap.size hx1 hhi hhi1 hlo hs6 (w3.drewN m1) c0 c1 c2).mono ?_
  rintro r w7 ⟨rfl, m2, rfl⟩
  rw [U1.out]
  go_wp2_with fail
  refine (fnudge u1 (by omega) (-(odd : Int)) (by omega) (by omega) (by omega) _).mono ?_
  rintro r w8 ⟨rfl, rfl⟩
  rw [show (u1 : Int) + -(odd : Int) = ((u1 - odd : Nat) : Int) by omega]
  go_wp2_with fail
  refine (ffloor (u1 - odd) (by omega) _).mono ?_
  rintro r w9 ⟨rfl, rfl⟩
  rw [show (u1 - odd) / 4 = d1 from D1.out]
  have hB : Below w.heap.size w (w3.drewN (m1 + m2)) := B3.out.trans (below_drewN _ _ _)
  have HB := Lib.hid hB
  clear hB
  by_cases q1 : d0 ≤ d1 / 10 * 10
  · have q1' : (d0 : Int) ≤ (d1 : Int) / 10 * 10 := by omega
    go_wp2
    go_ret2
    refine ⟨?_, HB.out⟩
    rw [← RR.out, show shortD d0 d1 d2 = (d1 / 10, true) from if_pos q1]
    rfl
  · have q1' : ¬ (d0 : Int) ≤ (d1 : Int) / 10 * 10 := by omega
    by_cases q2 : d0 < d1
    · have q2' : (d0 : Int) < (d1 : Int) := by omega
      go_wp2_with fail
      refine (fuscale m hi lo s w.heap.size hm hhi hhi1 hlo hs6 (w3.drewN (m1 + m2)) c0 c1 c2).mono ?_
      rintro r w9 ⟨rfl, m3, rfl⟩
      rw [U2.out]
      go_wp2_with fail
      refine (fround u2 (by omega) _).mono ?_
      rintro r w10 ⟨rfl, rfl⟩
      rw [show round4 u2 = d2 from D2.out]
      go_wp2
      go_ret2
      refine ⟨?_, B3.out.trans (below_drewN _ _ _)⟩
      rw [← RR.out, show shortD d0 d1 d2 = (d2, false) by unfold shortD; rw [if_neg q1, if_pos q2]]
      rfl
    · have q2' : ¬ (d0 : Int) < (d1 : Int) := by omega
      go_wp2
      go_ret2
      refine ⟨?_, HB.out⟩
      rw [← RR.out, show shortD d0 d1 d2 = (d0, false) by unfold shortD; rw [if_neg q1, if_neg q2]]
      rfl

set_option maxRecDepth 100000 in
set_option maxHeartbeats 8000000 in
theorem short32d_true (m : Nat) (e p : Int) (x0 x1 odd i hi lo s : Nat) (q : Int) (t : Nat) (hm : m < 18446744073709551616) (hx0 : x0 < 18446744073709551616) (hx1 : x1 < 18446744073709551616) (ho : odd ≤ 1) (hz : 40 + (-189 - e) = (t : Int) + 1) (ht : t < 63) (hq : e + ((t : Int) + 1) = q) (hb : ((m : Int) == 9223372036854775808) = true) (hge : e < -189) (hmn : (m : Int) - IntKind.u64.wrap (2 ^ t) = (x0 : Int)) (hmx : (m : Int) + IntKind.u64.wrap (2 ^ t) = (x1 : Int)) (hod : bits BinOp.and IntKind.i64 (wrap64 ((m : Int) / 2 ^ (t + 1))) 1 = (odd : Int))
    (he0 : -2000 ≤ e) (he1 : e ≤ 2000) (hp : l10 q = -p) (hp0 : -600 ≤ p) (hp1 : p ≤ 600) (hi0 : p + 348 = i) (hi1 : i < 696) (hs : -(e + l2 p + 3) = (s : Int)) (hs5 : 5 ≤ s) (hs6 : s < 64) (hl0 : -2000 ≤ l2 p) (hl1 : l2 p ≤ 2000)
    (hent : Go.Pinned.pow10Rows.getD i (0, 0) = (hi, lo)) (hhi : hi < 18446744073709551616) (hhi1 : 1 ≤ hi) (hlo : lo < 18446744073709551616) (hu1 : odd ≤ us x1 hi lo (2 ^ s)) (w : World) (hT : PTab w.heap.size w) :
    Calls Tryz.prog 64 #[.int .u64 (m : Int), .int .i64 e] w fun r w' => r = .returned (sfOut (sfRes x0 x1 m hi lo (2 ^ s) odd) p) ∧ Below w.heap.size w w' := by
  have h7 := hT.seven
  have _he := And.intro he0 he1
  have k0 := us_small (lo := lo) hx0 hhi hs5
  have k1 := us_small (lo := lo) hx1 hhi hs5
  have k2 := us_small (lo := lo) hm hhi hs5
  have HT := Lib.hid hT
  have HP := Lib.hid hp
  have HS := Lib.hid hs
  unfold sfRes
  obtain ⟨u0, hu0⟩ : ∃ u, us x0 hi lo (2 ^ s) = u := ⟨_, rfl⟩
  obtain ⟨u1, hv1⟩ : ∃ u, us x1 hi lo (2 ^ s) = u := ⟨_, rfl⟩
  obtain ⟨u2, hu2⟩ : ∃ u, us m hi lo (2 ^ s) = u := ⟨_, rfl⟩
  rw [hu0, hv1, hu2]
  rw [hv1] at hu1 k1
  rw [hu0] at k0
  rw [hu2] at k2
  obtain ⟨d0, hd0⟩ : ∃ d, ceil4 u0 odd = d := ⟨_, rfl⟩
  obtain ⟨d1, hd1⟩ : ∃ d, floor4 u1 odd = d := ⟨_, rfl⟩
  obtain ⟨d2, hd2⟩ : ∃ d, round4 u2 = d := ⟨_, rfl⟩
  have kd0 : d0 < 1000000000000000000 := by rw [← hd0]; unfold ceil4; omega
  have kd1 : d1 < 1000000000000000000 := by rw [← hd1]; unfold floor4; omega
  have kd2 : d2 < 1000000000000000000 := by rw [← hd2]; unfold round4; omega
  rw [hd0, hd1, hd2]
  obtain ⟨rr, hrr⟩ : ∃ r, shortD d0 d1 d2 = r := ⟨_, rfl⟩
  rw [hrr]
  have RR := Lib.hid hrr
  have U0 := Lib.hid hu0
  have U1 := Lib.hid hv1
  have U2 := Lib.hid hu2
  have D0 := Lib.hid hd0
  have D1 := Lib.hid hd1
  have D2 := Lib.hid hd2
  clear hT hp hs hu0 hv1 hu2 hd0 hd1 hd2 hrr
  go_enter Tryz.func64, Tryz.ntmps64
  go_wp2_with fail
  refine (flog10 q (by omega) (by omega) w).mono ?_
  rintro e1 w1 ⟨rfl, rfl⟩
  rw [HP.out]
  go_wp2_with fail
  refine (flog2 p (by omega) (by omega) _).mono ?_
  rintro e2 w2 ⟨rfl, rfl⟩
  go_wp2_with fail
  have hA : Below w.heap.size w (w.alloc (.cells #[.int .u64 0, .int .u64 0, .int .i64 0] 133)) := by go_grown
  have hk : (w.alloc (.cells #[.int .u64 0, .int .u64 0, .int .i64 0] 133)).heap[w.heap.size]? = some (.cells #[.int .u64 0, .int .u64 0, .int .i64 0] 133 (0, 0)) := by
    show (w.heap.push _)[w.heap.size]? = _
    simp
  have ht := HT.out _ hA i hi1
  rw [hent] at ht
  refine (fprescale w.heap.size e p (l2 p) i hi lo _ _ _ hi0 hi1 ⟨by omega, by omega⟩ ⟨by omega, by omega⟩ _ hk (by omega) ht.1 ht.2).mono ?_
  rintro r w3 ⟨rfl, hk3, hb3⟩
  rw [HS.out] at hk3
  have c0 : w3.cell? ⟨w.heap.size, 0, none⟩ = some (.int .u64 (hi : Int)) := by rw [cell_at hk3]; rfl
  have c1 : w3.cell? ⟨w.heap.size, 1, none⟩ = some (.int .u64 (lo : Int)) := by rw [cell_at hk3]; rfl
  have c2 : w3.cell? ⟨w.heap.size, 2, none⟩ = some (.int .i64 (s : Int)) := by rw [cell_at hk3]; rfl
  have B3 := Lib.hid (hA.trans hb3)
  clear hk3 hb3 hA hk ht
  go_wp2_with fail
  refine (fuscale x0 hi lo s w.heap.size hx0 hhi hhi1 hlo hs6 w3 c0 c1 c2).mono ?_
  rintro r w4 ⟨rfl, m1, rfl⟩
  rw [U0.out]
  go_wp2_with fail
  refine (fnudge u0 (by omega) odd (by omega) (by omega) (by omega) _).mono ?_
  rintro r w5 ⟨rfl, rfl⟩
  rw [show (u0 : Int) + (odd : Int) = ((u0 + odd : Nat) : Int) by omega]
  go_wp2_with fail
  refine (fceil (u0 + odd) (by omega) _).mono ?_
  rintro r w6 ⟨rfl, rfl⟩
  rw [show (u0 + odd + 3) / 4 = d0 from D0.out]
  go_wp2_with fail
  refine (fuscale x1 hi lo s w.heap.size hx1 hhi hhi1 hlo hs6 (w3.drewN m1) c0 c1 c2).mono ?_
  rintro r w7 ⟨rfl, m2, rfl⟩
  rw [U1.out]
  go_wp2_with fail
  refine (fnudge u1 (by omega) (-(odd : Int)) (by omega) (by omega) (by omega) _).mono ?_
  rintro r w8 ⟨rfl, rfl⟩
  rw [show (u1 : Int) + -(odd : Int) = ((u1 - odd : Nat) : Int) by omega]
  go_wp2_with fail
  refine (ffloor (u1 - odd) (by omega) _).mono ?_
  rintro r w9 ⟨rfl, rfl⟩
  rw [show (u1 - odd) / 4 = d1 from D1.out]
  have hB : Below w.heap.size w (w3.drewN (m1 + m2)) := B3.out.trans (below_drewN _ _ _)
  have HB := Lib.hid hB
  clear hB
  by_cases q1 : d0 ≤ d1 / 10 * 10
  · have q1' : (d0 : Int) ≤ (d1 : Int) / 10 * 10 := by omega
    go_wp2
    go_ret2
    refine ⟨?_, HB.out⟩
    rw [← RR.out, show shortD d0 d1 d2 = (d1 / 10, true) from if_pos q1]
    rfl
  · have q1' : ¬ (d0 : Int) ≤ (d1 : Int) / 10 * 10 := by omega
    by_cases q2 : d0 < d1
    · have q2' : (d0 : Int) < (d1 : Int) := by omega
      go_wp2_with fail
      refine (fuscale m hi lo s w.heap.size hm hhi hhi1 hlo hs6 (w3.drewN (m1 + m2)) c0 c1 c2).mono ?_
      rintro r w9 ⟨rfl, m3, rfl⟩
      rw [U2.out]
      go_wp2_with fail
      refine (fround u2 (by omega) _).mono ?_
      rintro r w10 ⟨rfl, rfl⟩
      rw [show round4 u2 = d2 from D2.out]
      go_wp2
      go_ret2
      refine ⟨?_, B3.out.trans (below_drewN _ _ _)⟩
      rw [← RR.out, show shortD d0 d1 d2 = (d2, false) by unfold shortD; rw [if_neg q1, if_pos q2]]
      rfl
    · have q2' : ¬ (d0 : Int) < (d1 : Int) := by omega
      go_wp2
      go_ret2
      refine ⟨?_, HB.out⟩
      rw [← RR.out, show shortD d0 d1 d2 = (d0, false) by unfold shortD; rw [if_neg q1, if_neg q2]]
      rfl

end Go.Proofs.YtkkipddgkfidmaaGreatDoor
