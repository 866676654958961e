/- The contract of fmtEFG in the form without an exponent. No conditions beyond each theorem's own. The contract of fmtEFG at nought. No conditions beyond each theorem's own. -/
import Derived.Test.YtkkipddgkfidmaaGreatDoorYb
namespace Go.Proofs.YtkkipddgkfidmaaGreatDoor
open Go.RowKit

def zeros (n : Nat) : List UInt8 := List.replicate n 48
/-- What stands ahead of the point, and behind it. -/
def intPart (dp : Int) (D : List UInt8) : List UInt8 := if 0 < dp then D.take dp.toNat ++ zeros (dp.toNat - D.length) else [48]
def fracPart (dp : Int) (D : List UInt8) : List UInt8 := if 0 < dp then D.drop dp.toNat else zeros (-dp).toNat ++ D

theorem zeros_snoc (k : Nat) : zeros k ++ [48] = zeros (k + 1) := by unfold zeros; rw [List.replicate_succ']
theorem zeros_len (k : Nat) : (zeros k).length = k := by simp [zeros]
theorem sg_len (neg : Bool) : (sg neg).length ≤ 1 := by cases neg <;> decide
theorem take_snoc (D : List UInt8) (k : Nat) (h : k < D.length) : D.take k ++ [D[k]] = D.take (k + 1) := (List.take_append_getElem h)

set_option maxRecDepth 100000 in
set_option maxHeartbeats 8000000 in
theorem fmtF (neg : Bool) (g : Nat) (D : List UInt8) (dp : Int) (hD0 : 0 < D.length) (hD : D.length ≤ 32) (hdp0 : -600 ≤ dp) (hdp1 : dp ≤ 600) (w : World)
    (hd : ∀ j (h : j < D.length), w.cell? ⟨g, j, none⟩ = some (eb (D[j]'h))) (hg : g < w.heap.size) :
    Calls Tryz.prog 62 #[.slice none 0 0, .bool neg, .slice (some ⟨g, 0, none⟩) 32 32, .int .i64 dp, .int .i64 (D.length : Int), .int .i64 (max ((D.length : Int) - dp) 0), .int .u8 102, .bool true] w fun e w' =>
      ∃ v, e = .returned v ∧ Out w.heap.size v (sg neg ++ intPart dp D ++ dotted (fracPart dp D)) w' ∧ Below w.heap.size w w' := by
  obtain ⟨B, hB⟩ : ∃ B, w.heap.size = B := ⟨_, rfl⟩
  have hBl : B ≤ w.heap.size := by omega
  have hcut : ∀ w', Below B w w' → ∀ j (h : j < D.length), w'.cell? ⟨g, j, none⟩ = some (eb (D[j]'h)) := fun w' hb j h => by
    rw [hb.cell (show g < B by omega)]; exact hd j h
  have HD := Lib.hid hcut
  have hE0 : Out B (.slice none 0 0) [] w := Out.nil B w
  have HE := Lib.hid hE0
  have hs1 := sg_len neg
  obtain ⟨n, hn⟩ : ∃ n, D.length = n := ⟨_, rfl⟩
  obtain ⟨pr, hpr⟩ : ∃ pr : Int, max ((n : Int) - dp) 0 = pr := ⟨_, rfl⟩
  rw [hB, hn, hpr]
  rw [hn] at hD hD0
  have HN := Lib.hid hn
  have HB := Lib.hid hB
  have HP := Lib.hid hpr
  have HS := Lib.hid hs1
  clear hcut hd hE0 hB hn hpr hs1
  go_enter Tryz.func62, Tryz.ntmps62
  go_upto_if 178 with (fail)
  go_cut [0] from 178 to 181 (fun s0 wx => Out B s0 (sg neg) wx ∧ Below B w wx)
  case first =>
    cases neg
    · go_wp2_with fail
      go_meet
      exact ⟨HE.out, Below.refl _ _⟩
    · go_wp2_with (at_builtin; refine wp_lit rfl _ _ rfl B w w (.slice none 0 0) [] [45] _ rfl rfl HE.out 1 rfl (by decide) (Below.refl _ _) hBl ?c1)
      case c1 =>
        intro v1 w1 h1 hb1
        have H1 := Lib.hid h1
        have H2 := Lib.hid hb1
        clear h1 hb1
        go_wp2_with fail
        go_meet
        exact ⟨H1.out, H2.out⟩
  case rest =>
    obtain ⟨h1, hb1⟩ := hcut
    have H1 := Lib.hid h1
    have H2 := Lib.hid hb1
    clear h1 hb1
    go_upto_if 183 with (fail)
    go_cut [0] from 182 to 211 (fun s0 wx => Out B s0 (sg neg ++ intPart dp D) wx ∧ Below B w wx)
    case first =>
      by_cases h0 : 0 < dp
      · have h0' : dp > 0 := h0
        rw [show decide (0 < dp) = true from decide_eq_true h0]
        obtain ⟨m, hm⟩ : ∃ m : Nat, min (n : Int) dp = m := ⟨(min (n : Int) dp).toNat, by omega⟩
        have hm32 : (m : Int) ≤ 32 := by omega
        have hm0 : (0 : Int) ≤ (m : Int) := by omega
        have hmn : m ≤ n := by omega
        obtain ⟨k, hk⟩ : ∃ k : Nat, dp - (m : Int) = k := ⟨(dp - m).toNat, by omega⟩
        have hk6 : k ≤ 600 := by omega
        have HK := Lib.hid hk
        have HM := Lib.hid (show m = min n dp.toNat by omega)
        clear hk
        go_wp2_with fail
        go_loopg [0, 25, 191] m (fun gg s0 s25 i wr => ∃ j : Nat, gg = m - j ∧ j ≤ m ∧ i = .int .i64 (j : Int) ∧ Out B s0 (sg neg ++ D.take j) wr ∧ Below B w wr)
        case atStart => exact ⟨0, rfl, Nat.zero_le _, rfl, by simpa using H1.out, H2.out⟩
        case round =>
          obtain ⟨j, rfl, hj, rfl, ho, hb⟩ := hrel
          have O1 := Lib.hid ho
          have O2 := Lib.hid hb
          have hcl := HD.out _ hb
          clear ho hb
          by_cases hlt : j < m
          · have hjD : j < D.length := by have := HN.out; omega
            have hc : wr.cell? ⟨g, j, none⟩ = some (.int .u8 ((D[j]'hjD).toNat : Int)) := hcl j hjD
            have hlt' : (j : Int) < (m : Int) := by omega
            clear hcl
            go_wp2_with (at_builtin; refine wp_lit rfl _ _ rfl B w wr u0 _ [D[j]'hjD] _ rfl rfl O1.out 1 rfl (by have := HS.out; simp only [List.length_append, List.length_take, List.length_cons, List.length_nil]; omega) O2.out hBl ?c2)
            case c2 =>
              intro v2 w2 h1 hb1
              have R1 := Lib.hid h1
              have R2 := Lib.hid hb1
              clear h1 hb1 hc
              go_wp2
              go_roundg (m - (j + 1))
              case measure => omega
              case rel =>
                refine ⟨j + 1, rfl, by omega, by go_num, ?_, R2.out⟩
                have := R1.out
                simpa only [List.append_assoc, take_snoc D j hjD] using this
          · obtain rfl : j = m := by omega
            have hlt' : ¬ (j : Int) < (j : Int) := by omega
            have hdk : dp - (j : Int) = (k : Int) := HK.out
            clear hcl
            go_wp2_with fail
            go_loopg [0, 203] k (fun gg s0 i wr => ∃ r : Nat, gg = k - r ∧ r ≤ k ∧ i = .int .i64 (r : Int) ∧ Out B s0 (sg neg ++ (D.take j ++ zeros r)) wr ∧ Below B w wr)
            case atStart => exact ⟨0, rfl, Nat.zero_le _, rfl, by simpa [zeros] using O1.out, O2.out⟩
            case round =>
              obtain ⟨r, rfl, hr, rfl, ho, hb⟩ := hrel
              have R1 := Lib.hid ho
              have R2 := Lib.hid hb
              clear ho hb
              by_cases hrk : r < k
              · have hrk' : (r : Int) < (k : Int) := by omega
                go_wp2_with (at_builtin; refine wp_lit rfl _ _ rfl B w wr u0 _ [48] _ rfl rfl R1.out 1 rfl (by have := HS.out; simp only [List.length_append, List.length_take, zeros_len, List.length_cons, List.length_nil]; omega) R2.out hBl ?c3)
                case c3 =>
                  intro v3 w3 h1 hb1
                  have S1 := Lib.hid h1
                  have S2 := Lib.hid hb1
                  clear h1 hb1
                  go_wp2
                  go_roundg (k - (r + 1))
                  case measure => omega
                  case rel =>
                    refine ⟨r + 1, rfl, by omega, by go_num, ?_, S2.out⟩
                    have := S1.out
                    simpa only [List.append_assoc, zeros_snoc] using this
              · obtain rfl : r = k := by omega
                go_wp2_with fail
                go_meet
                refine ⟨?_, R2.out⟩
                have := R1.out
                unfold intPart
                rw [if_pos h0, HN.out, show dp.toNat - n = r by have := HM.out; omega]
                rw [show D.take dp.toNat = D.take j by
                  have hM := HM.out
                  by_cases c : dp.toNat ≤ n
                  · rw [show j = dp.toNat by omega]
                  · rw [List.take_of_length_le (by have := HN.out; omega), List.take_of_length_le (by have := HN.out; omega)]]
                exact this
      · have h0' : ¬ dp > 0 := by omega
        go_wp2_with (at_builtin; refine wp_lit rfl _ _ rfl B w wc u0 _ [48] _ rfl rfl H1.out 1 rfl (by have := HS.out; simp only [List.length_cons, List.length_nil]; omega) H2.out hBl ?c4)
        case c4 =>
          intro v2 w2 h1 hb1
          have S1 := Lib.hid h1
          have S2 := Lib.hid hb1
          clear h1 hb1
          go_wp2_with fail
          go_meet
          refine ⟨?_, S2.out⟩
          have := S1.out
          unfold intPart
          rw [if_neg (by omega)]
          exact this
    case rest =>
      obtain ⟨h1, hb1⟩ := hcut
      clear H1 H2
      have H1 := Lib.hid h1
      have H2 := Lib.hid hb1
      have hil : (sg neg ++ intPart dp D).length ≤ 700 := by
        have e1 := HS.out
        have e2 := HN.out
        have : (intPart dp D).length ≤ 640 := by
          unfold intPart
          split <;> simp [zeros] <;> omega
        simp only [List.length_append]
        omega
      have HL := Lib.hid hil
      clear h1 hb1 hil
      by_cases hp : 0 < pr
      · have hp' : pr > 0 := hp
        have hpb : decide (0 < pr) = true := decide_eq_true hp
        have HPE := Lib.hid (show pr = (n : Int) - dp by have := HP.out; omega)
        go_wp2_with (at_builtin; refine wp_lit rfl _ _ rfl B w wc u0 _ [46] _ rfl rfl H1.out 1 rfl (by have := HL.out; simp only [List.length_append, List.length_cons, List.length_nil] at this ⊢; omega) H2.out hBl ?c5)
        case c5 =>
          intro v2 w2 h1 hb1
          clear H1 H2
          have H1 := Lib.hid h1
          have H2 := Lib.hid hb1
          clear h1 hb1
          obtain ⟨lz, hlz⟩ : ∃ lz : Nat, max 0 (-dp) = (lz : Int) := ⟨(-dp).toNat, by omega⟩
          obtain ⟨off, hoff⟩ : ∃ off : Nat, dp + (lz : Int) = (off : Int) := ⟨dp.toNat, by omega⟩
          have hpe := HPE.out
          have hlz2 : min pr (lz : Int) = (lz : Int) := by omega
          obtain ⟨mm, hmm⟩ : ∃ mm : Nat, (n : Int) - (off : Int) = (mm : Int) := ⟨n - off, by omega⟩
          have hmx : max 0 (mm : Int) = (mm : Int) := by omega
          have hpl : pr - (lz : Int) = (mm : Int) := by omega
          have hmi : min (mm : Int) (mm : Int) = (mm : Int) := by omega
          have htz : max 0 ((mm : Int) - (mm : Int)) = (0 : Int) := by omega
          have hlz6 : lz ≤ 600 := by omega
          have hm3 : off + mm = n := by omega
          have HZ := Lib.hid (show lz = (-dp).toNat by omega)
          have HO := Lib.hid (show off = dp.toNat by omega)
          clear hpe
          go_wp2
          go_loopg [0, 240] lz (fun gg s0 i wr => ∃ r : Nat, gg = lz - r ∧ r ≤ lz ∧ i = .int .i64 (r : Int) ∧ Out B s0 (sg neg ++ intPart dp D ++ ([46] ++ zeros r)) wr ∧ Below B w wr)
          case atStart => exact ⟨0, rfl, Nat.zero_le _, rfl, by simpa [zeros] using H1.out, H2.out⟩
          case round =>
            obtain ⟨r, rfl, hr, rfl, ho, hb⟩ := hrel
            have R1 := Lib.hid ho
            have R2 := Lib.hid hb
            clear ho hb
            by_cases hrk : r < lz
            · have hrk' : (r : Int) < (lz : Int) := by omega
              go_wp2_with (at_builtin; refine wp_lit rfl _ _ rfl B w wr u0 _ [48] _ rfl rfl R1.out 1 rfl (by have := HL.out; simp only [List.length_append, zeros_len, List.length_cons, List.length_nil] at this ⊢; omega) R2.out hBl ?c6)
              case c6 =>
                intro v3 w3 h1 hb1
                have S1 := Lib.hid h1
                have S2 := Lib.hid hb1
                clear h1 hb1
                go_wp2
                go_roundg (lz - (r + 1))
                case measure => omega
                case rel =>
                  refine ⟨r + 1, rfl, by omega, by go_num, ?_, S2.out⟩
                  have := S1.out
                  simpa [List.append_assoc, zeros_snoc] using this
            · obtain rfl : r = lz := by omega
              go_wp2_with fail
              go_loopg [0, 30, 247] mm (fun gg s0 s30 i wr => ∃ j : Nat, gg = mm - j ∧ j ≤ mm ∧ i = .int .i64 (j : Int) ∧ Out B s0 (sg neg ++ intPart dp D ++ ([46] ++ zeros r ++ (D.drop off).take j)) wr ∧ Below B w wr)
              case atStart => exact ⟨0, rfl, Nat.zero_le _, rfl, by simpa using R1.out, R2.out⟩
              case round =>
                obtain ⟨j, rfl, hj, rfl, ho, hb⟩ := hrel
                have O1 := Lib.hid ho
                have O2 := Lib.hid hb
                have hcl := HD.out _ hb
                clear ho hb R1 R2
                by_cases hlt : j < mm
                · have hjD : off + j < D.length := by have := HN.out; omega
                  have hc : wr.cell? ⟨g, off + j, none⟩ = some (.int .u8 ((D[off + j]'hjD).toNat : Int)) := hcl (off + j) hjD
                  have hlt' : (j : Int) < (mm : Int) := by omega
                  have hsn := take_snoc (D.drop off) j (by simp; omega)
                  rw [List.getElem_drop] at hsn
                  have HSN := Lib.hid hsn
                  have hb32 : (off : Int) + (j : Int) < 32 := by omega
                  have hb33 : (0 : Int) ≤ (off : Int) + (j : Int) := by omega
                  have hb34 : off + j < 32 := by omega
                  clear hcl hsn
                  go_wp2_with (at_builtin; refine wp_lit rfl _ _ rfl B w wr u0 _ [D[off + j]'hjD] _ rfl rfl O1.out 1 rfl (by have := HL.out; simp only [List.length_append, zeros_len, List.length_take, List.length_cons, List.length_nil] at this ⊢; omega) O2.out hBl ?c7)
                  case c7 =>
                    intro v3 w3 h1 hb1
                    have S1 := Lib.hid h1
                    have S2 := Lib.hid hb1
                    clear h1 hb1 hc
                    go_wp2
                    go_roundg (mm - (j + 1))
                    case measure => omega
                    case rel =>
                      refine ⟨j + 1, rfl, by omega, by go_num, ?_, S2.out⟩
                      have := S1.out
                      rw [← HSN.out]
                      simpa [List.append_assoc] using this
                · obtain rfl : j = mm := by omega
                  clear hcl
                  go_wp2_with fail
                  go_loopg [0, 261] 0 (fun gg s0 i wx => i = .int .i64 0 ∧ s0 = u0 ∧ wx = wr)
                  case atStart => exact ⟨rfl, rfl, rfl⟩
                  case round =>
                    obtain ⟨rfl, rfl, rfl⟩ := hrel
                    go_wp2_with fail
                    go_ret
                    refine ⟨_, rfl, ?_, O2.out⟩
                    have := O1.out
                    have e2 := HN.out
                    have e3 := HZ.out
                    have e4 := HO.out
                    rw [List.take_of_length_le (by simp; omega)] at this
                    have hfr : fracPart dp D = zeros r ++ D.drop off := by
                      unfold fracPart
                      split
                      · rw [show r = 0 by omega, e4]; simp [zeros]
                      · rw [e3, show off = 0 by omega]; simp
                    rw [hfr]
                    have hne : zeros r ++ D.drop off ≠ [] := by
                      intro e
                      have := congrArg List.length e
                      simp [zeros] at this
                      omega
                    simpa [dotted, hne] using this
      · have hp' : ¬ pr > 0 := by omega
        have hfr : fracPart dp D = [] := by
          have e1 := HP.out
          have e2 := HN.out
          unfold fracPart
          rw [if_pos (by omega)]
          exact List.drop_of_length_le (by omega)
        have HF := Lib.hid hfr
        clear hfr
        go_wp2
        go_ret
        refine ⟨_, rfl, ?_, H2.out⟩
        rw [HF.out]
        simpa [dotted] using H1.out
end Go.Proofs.YtkkipddgkfidmaaGreatDoor
namespace Go.Proofs.YtkkipddgkfidmaaGreatDoor
open Go.RowKit

set_option maxRecDepth 100000 in
set_option maxHeartbeats 8000000 in
theorem fmtZ (neg : Bool) (w : World) :
    Calls Tryz.prog 62 #[.slice none 0 0, .bool neg, .slice none 0 0, .int .i64 0, .int .i64 0, .int .i64 (-1), .int .u8 102, .bool true] w fun e w' =>
      ∃ v, e = .returned v ∧ Out w.heap.size v (sg neg ++ [48]) w' ∧ Below w.heap.size w w' := by
  obtain ⟨B, hB⟩ : ∃ B, w.heap.size = B := ⟨_, rfl⟩
  have hBl : B ≤ w.heap.size := by omega
  have hE0 : Out B (.slice none 0 0) [] w := Out.nil B w
  have HE := Lib.hid hE0
  rw [hB]
  have HB := Lib.hid hB
  clear hE0 hB
  go_enter Tryz.func62, Tryz.ntmps62
  go_upto_if 178 with (fail)
  go_cut [0] from 178 to 181 (fun s0 wx => Out B s0 (sg neg) wx ∧ Below B w wx)
  case first =>
    cases neg
    · go_wp2_with fail
      go_meet
      exact ⟨HE.out, Below.refl _ _⟩
    · go_wp2_with (at_builtin; refine wp_lit rfl _ _ rfl B w w (.slice none 0 0) [] [45] _ rfl rfl HE.out 1 rfl (by decide) (Below.refl _ _) hBl ?c1)
      case c1 =>
        intro v1 w1 h1 hb1
        have H1 := Lib.hid h1
        have H2 := Lib.hid hb1
        clear h1 hb1
        go_wp2_with fail
        go_meet
        exact ⟨H1.out, H2.out⟩
  case rest =>
    obtain ⟨h1, hb1⟩ := hcut
    have H1 := Lib.hid h1
    have H2 := Lib.hid hb1
    clear h1 hb1
    go_wp2_with (at_builtin; refine wp_lit rfl _ _ rfl B w wc u0 _ [48] _ rfl rfl H1.out 1 rfl (by have := sg_len neg; simp only [List.length_cons, List.length_nil]; omega) H2.out hBl ?c4)
    case c4 =>
      intro v2 w2 h1 hb1
      have S1 := Lib.hid h1
      have S2 := Lib.hid hb1
      clear h1 hb1
      go_wp2
      go_ret
      exact ⟨_, rfl, S1.out, S2.out⟩
/-- The text with an exponent. -/
def eText (neg : Bool) (dp : Int) (D : List UInt8) : List UInt8 := sg neg ++ (D.take 1 ++ dotted (D.drop 1)) ++ 101 :: (if dp < 1 then 45 else 43) :: expo (dp - 1).natAbs
def fText (neg : Bool) (dp : Int) (D : List UInt8) : List UInt8 := sg neg ++ intPart dp D ++ dotted (fracPart dp D)

theorem fmtE' (neg : Bool) (g : Nat) (D : List UInt8) (dp : Int) (hD0 : 0 < D.length) (hD : D.length ≤ 32) (hdp0 : -600 ≤ dp) (hdp1 : dp ≤ 600) (w : World)
    (hd : ∀ j (h : j < D.length), w.cell? ⟨g, j, none⟩ = some (eb (D[j]'h))) (hg : g < w.heap.size) :
    Calls Tryz.prog 62 #[.slice none 0 0, .bool neg, .slice (some ⟨g, 0, none⟩) 32 32, .int .i64 dp, .int .i64 (D.length : Int), .int .i64 (max ((D.length : Int) - 1) 0), .int .u8 101, .bool true] w fun e w' =>
      ∃ v, e = .returned v ∧ Out w.heap.size v (eText neg dp D) w' ∧ Below w.heap.size w w' := by
  match D, hD0, hD, hd with
  | [], h, _, _ => exact absurd h (by decide)
  | c0 :: F, _, hD, hd =>
    have := fmtE neg g c0 F dp (by simp at hD; omega) hdp0 hdp1 w hd hg
    rw [show max (((c0 :: F).length : Int) - 1) 0 = (F.length : Int) by simp only [List.length_cons]; omega]
    unfold eText
    simp only [List.length_cons, List.take_succ_cons, List.take_zero, List.drop_succ_cons, List.drop_zero, List.cons_append, List.nil_append]
    simpa using this
end Go.Proofs.YtkkipddgkfidmaaGreatDoor
