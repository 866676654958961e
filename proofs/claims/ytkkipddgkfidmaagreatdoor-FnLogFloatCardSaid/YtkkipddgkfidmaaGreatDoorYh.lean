/- The contract of ftoa32 in the form with an exponent. No conditions beyond each theorem's own. -/
import Derived.Test.YtkkipddgkfidmaaGreatDoorYg
namespace Go.Proofs.YtkkipddgkfidmaaGreatDoor
open Go.RowKit

set_option maxRecDepth 100000 in
set_option maxHeartbeats 8000000 in
theorem fftoa32E (P : Nat → Int → Prop) (b : Nat) (neg : Bool) (ex mn mant sh M : Nat) (xq E : Int) (hbw : IntKind.u64.wrap (b : Int) = (b : Int)) (hneg : ((b : Int) / 2147483648 != 0) = neg) (hex : bits BinOp.and IntKind.i64 (wrap64 ((b : Int) / 8388608)) 255 = (ex : Int)) (hmn : bits BinOp.and IntKind.u64 (b : Int) 8388607 = (mn : Int)) (he : ex < 255)
    (hcase : (ex = 0 ∧ xq = 1 ∧ mant = mn) ∨ (0 < ex ∧ xq = (ex : Int) ∧ bits BinOp.or IntKind.u64 (mn : Int) 8388608 = (mant : Int))) (hm0 : 0 < mant) (hm1 : (mant : Int) ≤ 18446744073709551615) (hsh : (64 : Int) - (Lib.bitLen mant : Int) = (sh : Int)) (hsh6 : sh < 64) (hx0 : 1 ≤ xq) (hx1 : xq ≤ 254) (hM : IntKind.u64.wrap ((mant : Int) * 2 ^ sh) = (M : Int)) (hE : xq + -127 - (sh : Int) - 23 = E)
    (HSF : ∀ w', PTab w'.heap.size w' → Calls Tryz.prog 64 #[.int .u64 (M : Int), .int .i64 E] w' fun e w'' => (∃ (u : Nat) (p : Int), e = .returned (.tuple #[.int .u64 (u : Int), .int .i64 p]) ∧ P u p ∧ 0 < u ∧ u < 100000000000000000 ∧ -400 ≤ p ∧ p ≤ 400) ∧ Below w'.heap.size w' w'')
    (w : World) (hT : PTab w.heap.size w) (hU : Lib.TabBelow Tryz.prog w.heap.size w "internal/strconv.uint64pow10" .u64 Lib.pow10Tab) :
    Calls Tryz.prog 50 #[.slice none 0 0, .float .f32 b, .int .u8 101, .int .i64 (-1)] w fun e w' => ∃ v u p k, e = .returned v ∧ P u p ∧ 0 < u ∧ u < 100000000000000000 ∧ -400 ≤ p ∧ p ≤ 400 ∧ 0 < k ∧ k ≤ Lib.nDigits u ∧ (∀ j (h : j < (Lib.decDigits u).length), k ≤ j → (Lib.decDigits u)[j] = 48)
      ∧ Out w.heap.size v (eText neg ((Lib.nDigits u : Int) + p) ((Lib.decDigits u).take k)) w' ∧ Below w.heap.size w w' := by
  have h58 := run58 b
  have HC := Lib.hid hcase
  have HSH := Lib.hid hsh
  have HEE := Lib.hid hE
  have HT := Lib.hid hT
  have HU := Lib.hid hU
  have HS := Lib.hid HSF
  have hms : mant ≤ 18446744073709551615 := by omega
  clear hcase hsh hE hT hU HSF
  go_enter Tryz.func50, Tryz.ntmps50
  go_wp2
  go_quiet (fail)
  go_upto_if 78 with (fail)
  go_cut [14, 15] from 77 to 84 (fun s14 s15 wx => s14 = .int .i64 xq ∧ s15 = .int .u64 (mant : Int) ∧ wx = w.drewN nq)
  case first =>
    rcases HC.out with ⟨rfl, h2, rfl⟩ | ⟨h1, h2, h3⟩
    · go_wp2
      go_meet
      exact ⟨by rw [h2], rfl, rfl⟩
    · have hne : ¬ (ex : Int) = 0 := by omega
      have hneb : ((ex : Int) == 0) = false := by rw [beq_eq_false_iff_ne]; exact hne
      have H2 := Lib.hid h2
      clear h2
      go_wp2
      go_meet
      exact ⟨by rw [H2.out], rfl, rfl⟩
  case rest =>
    obtain ⟨rfl, rfl, rfl⟩ := hcut
    have hmb : ((mant : Int) == 0) = false := by rw [beq_eq_false_iff_ne]; omega
    have hlen := Tryz.bits_Len64 (mant : Int)
    clear h58 hlen
    go_upto_region 34 with (fail)
    generalize hW : World.alloc _ _ = W
    have hB : W.heap[w.heap.size]? = some (.cells (Array.replicate 32 (.int .u8 0)) 106 (0, 0)) := by rw [← hW]; exact heap_alloc_new (w.drewN nq) _
    have hWb : Below w.heap.size w W := by
      rw [← hW]
      exact (below_drewN _ w nq).alloc (Nat.le_refl _) _
    have HB := Lib.hid hB
    have HW := Lib.hid hWb
    have hsh := HSH.out
    clear hW hB hWb
    go_wp2_with fail
    refine (Tryz.bits_Len64 (mant : Int) W (by omega) hm1).mono ?_
    rintro e w1 ⟨rfl, rfl⟩
    have hEE := HEE.out
    go_wp2_with fail
    have hws := HW.out.size
    refine (HS.out w1 ((HT.out.on HW.out).up hws)).mono ?_
    rintro e w2 ⟨⟨u, p, rfl, hPu, hu0, hu1, hp0, hp1⟩, hb2⟩
    have hN18 : Lib.nDigits u ≤ 18 := nD_le 18 u (by omega) (by decide)
    have HP := Lib.hid hPu
    have hlt1 : w.heap.size < w1.heap.size := lt_of_block HB.out
    have H2 := Lib.hid (HW.out.trans (hb2.mono hws))
    have HB2 := Lib.hid (show w2.heap[w.heap.size]? = some (.cells (Array.replicate 32 (.int .u8 0)) 106 (0, 0)) by rw [hb2.block _ hlt1]; exact HB.out)
    clear hPu hb2 hsh hEE
    have hu64 : u < 18446744073709551616 := by omega
    have hu0' : 1 ≤ u := hu0
    have hp0' : -2000 ≤ p := by omega
    have hp1' : p ≤ 2000 := by omega
    have hN32 : Lib.nDigits u ≤ 32 := by omega
    have HH2 := Lib.hid (show ∀ w', w'.heap = w2.heap → Sort.Holds eb w' w.heap.size 0 (Array.replicate (Lib.nDigits u) (0 : UInt8)) by
      intro w' hw'' j hj
      have hw' : w'.heap[w.heap.size]? = some (.cells (Array.replicate 32 (.int .u8 0)) 106 (0, 0)) := by rw [hw'']; exact HB2.out
      have hj' : j < Lib.nDigits u := by simpa using hj
      have hj32 : j < 32 := by omega
      refine ⟨?_, free_at hw'⟩
      rw [cell_at hw']
      have : (Array.replicate (Lib.nDigits u) (0 : UInt8))[j]! = 0 := by
        rw [getElem!_pos _ j hj]
        simp
      rw [this]
      simp [hj32])
    have hlt2 : w.heap.size < w2.heap.size := lt_of_block HB2.out
    clear HB2
    have hsz0 : (Array.replicate (Lib.nDigits u) (0 : UInt8)).size = Lib.nDigits u := Array.size_replicate
    go_upto_region 38 with (fail)
    go_cut [22, 23] from 139 to 147 (fun s22 s23 wx => ∃ k : Nat, k ≤ Lib.nDigits u ∧ s22 = .int .i64 ((Lib.nDigits u : Int) + p) ∧ s23 = .int .i64 (k : Int) ∧ (∀ j (h : j < (Lib.decDigits u).length), k ≤ j → (Lib.decDigits u)[j] = 48) ∧ Digs w.heap.size (Lib.decDigits u) wx ∧ Below w.heap.size w wx ∧ w2.heap.size ≤ wx.heap.size)
    case first =>
      go_region_with (first
        | (go_at_call 66; refine (Tryz.internal_strconv_numDigits u hu0' hu64 _ (HU.out _ (by first | exact H2.out | exact H2.out.drew | exact H2.out.drew.drew))).mono ?_; rintro e w' ⟨rfl, rfl⟩)
        | (go_at_call 65; refine (fsetDigits w.heap.size u p (Array.replicate (Lib.nDigits u) 0) hsz0 hN32 hu64 hp0' hp1' w2.drew (HH2.out w2.drew rfl)).mono ?_; rintro e w' ⟨⟨k, hk, rfl, hz⟩, hdg, hb⟩))
      all_goals
        go_wp2_with fail
        go_meet
        exact ⟨k, hk, rfl, rfl, hz, hdg, (H2.out.drew).trans hb, hb.size⟩
    case rest =>
      obtain ⟨k, hk, rfl, rfl, hz, hdg, hb, hsz2⟩ := hcut
      have hlen := Lib.decDigits_length u
      have hk0 : 0 < k := by
        rcases Nat.eq_zero_or_pos k with h0 | h0
        · exfalso
          obtain ⟨c, l, hcl2, hc9⟩ := dec_head u hu0
          have := hz 0 (by rw [hcl2]; simp) (by omega)
          simp only [hcl2, List.getElem_cons_zero] at this
          subst this
          exact absurd hc9 (by decide)
        · exact h0
      have hDl : ((Lib.decDigits u).take k).length = k := by rw [List.length_take]; omega
      have hgt : w.heap.size < wc.heap.size := Nat.lt_of_lt_of_le hlt2 hsz2
      have HF := fmtE' neg w.heap.size ((Lib.decDigits u).take k) ((Lib.nDigits u : Int) + p) (by omega) (by omega) (by omega) (by omega) wc (fun j hj => by
        have := hdg j (by rw [hDl] at hj; omega)
        rw [List.getElem_take]
        exact this) hgt
      rw [hDl] at HF
      have H3 := Lib.hid HF
      have H4 := Lib.hid hz
      have H5 := Lib.hid hb
      have H6 := Lib.hid hDl
      clear HF hz hb hDl hdg hlen
      go_wp2_with fail
      refine H3.out.mono ?_
      rintro e w' ⟨v, rfl, ho, hb'⟩
      have R1 := Lib.hid ho
      have R2 := Lib.hid (H5.out.trans (hb'.mono H5.out.size))
      clear ho hb'
      go_wp2
      go_ret
      exact ⟨_, u, p, k, rfl, HP.out, hu0, hu1, hp0, hp1, hk0, hk, H4.out, R1.out.mono H5.out.size, R2.out⟩
end Go.Proofs.YtkkipddgkfidmaaGreatDoor
