/- The contract of zerolog's appendFloat at a number of 64 bits. No conditions beyond each theorem's own. -/
import Derived.Test.YtkkipddgkfidmaaGreatDoorYq
namespace Go.Proofs.YtkkipddgkfidmaaGreatDoor
open Go.RowKit

set_option maxRecDepth 100000 in
set_option maxHeartbeats 8000000 in
/-- The end of appendFloat, with an abstract AppendFloat. -/
theorem appendF_at (bits64 : Int) (b a : Nat) (T T0 : List UInt8 → Prop) (P : Prop) (hb : b < 18446744073709551616) (ha : b % 9223372036854775808 = a) (hN : (FloatKind.f64.format.order b b != some .eq) = false) (hI1 : (FloatKind.f64.format.order b 9218868437227405311 == some .gt) = false) (hI2 : (FloatKind.f64.format.order (Op.negFloat .f64 b) 9218868437227405311 == some .gt) = false)
    (hTl : ∀ l, T l → l.length ≤ 2000) (hT0 : ∀ l, T l → T0 l) (hTc : ∀ l A y, T l → l = A ++ [101, 45, 48, y] → T0 (A ++ [101, 45, y])) (w : World)
    (hbits : bits64 = 64) (hP : (FloatKind.f64.format.order a 0 != some .eq) = true → P)
    (hA : ∀ fmt : Int, (fmt = 102 ∨ (fmt = 101 ∧ P)) → Calls Tryz.prog 33 #[.slice none 0 0, .float .f64 b, .int .u8 fmt, .int .i64 (-1), .int .i64 bits64] w fun e w' => ∃ v l, e = .returned v ∧ T l ∧ Out w.heap.size v l w' ∧ Below w.heap.size w w') :
    Calls Tryz.prog 20 #[.slice none 0 0, .float .f64 b, .int .i64 bits64, .int .i64 (-1)] w fun e w' => ∃ v l, e = .returned v ∧ T0 l ∧ Out w.heap.size v l w' ∧ Below w.heap.size w w' := by
  subst hbits
  have C1 := Lib.hid (fisNaN b false hN w)
  have C2 := Lib.hid (fisInf1 b false hI1 w)
  have C3 := Lib.hid (fisInf2 b false hI2 w)
  have C4 := Lib.hid (fabs b hb w)
  have HA := Lib.hid hA
  have HP := Lib.hid hP
  have H0 := Lib.hid hT0
  have HTL := Lib.hid hTl
  have HC := Lib.hid hTc
  rw [ha] at C4
  clear hN hI1 hI2 hA hP hT0 hTc hTl ha
  go_enter Tryz.func20, Tryz.ntmps20
  go_wp2_with fail
  refine C1.out.mono ?_
  rintro e w1 ⟨rfl, rfl⟩
  go_wp2_with fail
  refine C2.out.mono ?_
  rintro e w1 ⟨rfl, rfl⟩
  go_wp2_with fail
  refine C3.out.mono ?_
  rintro e w1 ⟨rfl, rfl⟩
  go_upto_if 28 with (fail)
  go_cut [9] from 10 to 56 (fun s9 wx => ∃ fmt : Int, s9 = .int .u8 fmt ∧ (fmt = 102 ∨ (fmt = 101 ∧ P)) ∧ wx = w)
  case first =>
    go_wp2_with fail
    refine C4.out.mono ?_
    rintro e w1 ⟨rfl, rfl⟩
    cases hz : (FloatKind.f64.format.order a 0 != some Ordering.eq)
    · go_wp2
      go_meet
      exact ⟨102, rfl, .inl rfl, rfl⟩
    · have HPP := Lib.hid (HP.out hz)
      cases h1 : (FloatKind.f64.format.order a 4517329193108106637 == some Ordering.lt)
      · cases h2 : (FloatKind.f64.format.order a 4921056587992461136 == some Ordering.gt || FloatKind.f64.format.order a 4921056587992461136 == some Ordering.eq)
        · go_wp2
          go_meet
          exact ⟨102, rfl, .inl rfl, rfl⟩
        · go_wp2
          go_meet
          exact ⟨101, rfl, .inr ⟨rfl, HPP.out⟩, rfl⟩
      · go_wp2
        go_meet
        exact ⟨101, rfl, .inr ⟨rfl, HPP.out⟩, rfl⟩
  case rest =>
    obtain ⟨fmt, rfl, hfmt, rfl⟩ := hcut
    have HF := Lib.hid hfmt
    clear hfmt
    go_wp2_with fail
    refine (HA.out fmt HF.out).mono ?_
    rintro e w1 ⟨v, l, rfl, ht, ho, hbl⟩
    have R1 := Lib.hid ht
    have R2 := Lib.hid ho
    have R3 := Lib.hid hbl
    clear ht hbl
    rcases HF.out with rfl | ⟨rfl, _⟩
    · clear ho
      go_wp2
      go_ret
      exact ⟨_, l, rfl, H0.out l R1.out, R2.out, R3.out⟩
    · by_cases h4 : l.length < 4
      · obtain ⟨ao, c, hv⟩ := ho.shape
        subst hv
        have h4' : ¬ (l.length : Int) ≥ 4 := by omega
        have h4b : decide ((l.length : Int) ≥ 4) = false := decide_eq_false h4'
        clear ho
        go_wp2
        go_ret
        exact ⟨_, l, rfl, H0.out l R1.out, R2.out, R3.out⟩
      · obtain ⟨i, hi⟩ : ∃ i, l.length = i + 4 := ⟨l.length - 4, by omega⟩
        obtain ⟨g, cap, cur, hv, hBg, hg, hlc, hcm, hcs, htk⟩ := ho.block (by omega)
        subst hv
        have HG := Lib.hid hg
        have HK := Lib.hid htk
        have HI := Lib.hid hi
        have HCS := Lib.hid hcs
        have hfr : ∀ j, w1.frozen? ⟨g, j, none⟩ = false := fun j => free_at hg
        have hfz := hfr (i + 2)
        have c4 := cell_of_take hg htk i (by omega)
        have c3 := cell_of_take hg htk (i + 1) (by omega)
        have c2 := cell_of_take hg htk (i + 2) (by omega)
        have c1 := cell_of_take hg htk (i + 3) (by omega)
        obtain ⟨x4, hx4⟩ : ∃ x4 : UInt8, l[i]'(by omega) = x4 := ⟨_, rfl⟩
        obtain ⟨x3, hx3⟩ : ∃ x3 : UInt8, l[i + 1]'(by omega) = x3 := ⟨_, rfl⟩
        obtain ⟨x2, hx2⟩ : ∃ x2 : UInt8, l[i + 2]'(by omega) = x2 := ⟨_, rfl⟩
        obtain ⟨x1, hx1⟩ : ∃ x1 : UInt8, l[i + 3]'(by omega) = x1 := ⟨_, rfl⟩
        rw [hx4] at c4
        rw [hx3] at c3
        rw [hx2] at c2
        rw [hx1] at c1
        have hlast := last_four l i hi
        rw [hx4, hx3, hx2, hx1] at hlast
        have HL := Lib.hid hlast
        have hclo := clean_out hBg hg (by omega) hcm hcs htk i hi
        rw [hx4, hx3, hx1] at hclo
        have HCO := Lib.hid hclo
        have HBG := Lib.hid hBg
        clear hg htk hcs hfr ho hx4 hx3 hx2 hx1 hlast hclo h4 hBg
        rw [hi] at hlc
        have hib : i ≤ 1996 := by have := HTL.out l R1.out; omega
        have hib' : (i : Int) ≤ 1996 := by omega
        have e4 : ((l.length : Nat) : Int) - 4 = (i : Int) := by omega
        have e3 : ((l.length : Nat) : Int) - 3 = ((i + 1 : Nat) : Int) := by omega
        have e2 : ((l.length : Nat) : Int) - 2 = ((i + 2 : Nat) : Int) := by omega
        have e1 : ((l.length : Nat) : Int) - 1 = ((i + 3 : Nat) : Int) := by omega
        clear hi
        obtain ⟨n, hn⟩ : ∃ n, l.length = n := ⟨_, rfl⟩
        have R2n : Hid (Out wc.heap.size (.slice (some ⟨g, 0, none⟩) n cap) l w1) := by rw [← hn]; exact R2
        rw [hn] at e1 e2 e3 e4 ⊢
        clear R2
        have HN := Lib.hid hn
        clear hn
        have hge : (n : Int) ≥ 4 := by omega
        have l4 : (i : Int) < (n : Int) := by omega
        have l3 : ((i + 1 : Nat) : Int) < (n : Int) := by omega
        have l2 : ((i + 2 : Nat) : Int) < (n : Int) := by omega
        have l1 : ((i + 3 : Nat) : Int) < (n : Int) := by omega
        by_cases q4 : x4 = 101
        · subst q4
          by_cases q3 : x3 = 45
          · subst q3
            by_cases q2 : x2 = 48
            · subst q2
              go_wp2
              go_ret
              exact ⟨_, _, rfl, HC.out l (l.take i) x1 R1.out HL.out, HCO.out, R3.out.setCell (p := ⟨g, i + 2, none⟩) HBG.out _⟩
            · have q2' : ((x2.toNat : Int) == 48) = false := by
                rw [beq_eq_false_iff_ne]
                intro h
                exact q2 (UInt8.toNat_inj.1 (by show _ = 48; omega))
              go_wp2
              go_ret
              exact ⟨_, l, rfl, H0.out l R1.out, R2n.out, R3.out⟩
          · have q3' : ((x3.toNat : Int) == 45) = false := by
              rw [beq_eq_false_iff_ne]
              intro h
              exact q3 (UInt8.toNat_inj.1 (by show _ = 45; omega))
            go_wp2
            go_ret
            exact ⟨_, l, rfl, H0.out l R1.out, R2n.out, R3.out⟩
        · have q4' : ((x4.toNat : Int) == 101) = false := by
            rw [beq_eq_false_iff_ne]
            intro h
            exact q4 (UInt8.toNat_inj.1 (by show _ = 101; omega))
          go_wp2
          go_ret
          exact ⟨_, l, rfl, H0.out l R1.out, R2n.out, R3.out⟩
end Go.Proofs.YtkkipddgkfidmaaGreatDoor
