/- The contract of fmtEFG in the form with an exponent. No conditions beyond each theorem's own. -/
import Derived.Test.YtkkipddgkfidmaaGreatDoorYa
import Derived.Deep.Cut
import Derived.Deep.CutRange
import Derived.Lib.MinMax
namespace Go.Proofs.YtkkipddgkfidmaaGreatDoor
open Go.RowKit

def sg (neg : Bool) : List UInt8 := if neg then [45] else []
def ech (k : Nat) : UInt8 := UInt8.ofNat (48 + k)
def expo (x : Nat) : List UInt8 := if x < 10 then [48, ech x] else if x < 100 then [ech (x / 10), ech (x % 10)] else [ech (x / 100), ech (x / 10 % 10), ech (x % 10)]
def dotted (F : List UInt8) : List UInt8 := if F = [] then [] else 46 :: F

theorem ech_nat {k : Nat} (h : k < 10) : ((ech k).toNat : Int) = 48 + k := by
  unfold ech
  rw [UInt8.toNat_ofNat']
  omega

theorem lit2 {a b a' b' : Int} (h : a = a') (h2 : b = b') : [Value.int .u8 a, Value.int .u8 b] = [Value.int .u8 a', Value.int .u8 b'] := by rw [h, h2]
theorem lit3 {a b c a' b' c' : Int} (h : a = a') (h2 : b = b') (h3 : c = c') : [Value.int .u8 a, Value.int .u8 b, Value.int .u8 c] = [Value.int .u8 a', Value.int .u8 b', Value.int .u8 c'] := by rw [h, h2, h3]

set_option maxRecDepth 100000 in
set_option maxHeartbeats 8000000 in
theorem fmtE (neg : Bool) (g : Nat) (c0 : UInt8) (F : List UInt8) (dp : Int) (hF : F.length < 32) (hdp0 : -600 ≤ dp) (hdp1 : dp ≤ 600) (w : World)
    (hd : ∀ j (h : j < (c0 :: F).length), w.cell? ⟨g, j, none⟩ = some (eb ((c0 :: F)[j]'h))) (hg : g < w.heap.size) :
    Calls Tryz.prog 62 #[.slice none 0 0, .bool neg, .slice (some ⟨g, 0, none⟩) 32 32, .int .i64 dp, .int .i64 ((F.length + 1 : Nat) : Int), .int .i64 (F.length : Int), .int .u8 101, .bool true] w fun e w' =>
      ∃ v, e = .returned v ∧ Out w.heap.size v (sg neg ++ c0 :: dotted F ++ 101 :: (if dp < 1 then 45 else 43) :: expo (dp - 1).natAbs) w' ∧ Below w.heap.size w w' := by
  obtain ⟨B, hB⟩ : ∃ B, w.heap.size = B := ⟨_, rfl⟩
  have hBl : B ≤ w.heap.size := by omega
  have hcut : ∀ w', Below B w w' → ∀ j (h : j < (c0 :: F).length), w'.cell? ⟨g, j, none⟩ = some (eb ((c0 :: F)[j]'h)) := fun w' hb j h => by
    rw [hb.cell (show g < B by omega)]; exact hd j h
  have HD := Lib.hid hcut
  have hE0 : Out B (.slice none 0 0) [] w := Out.nil B w
  have HE := Lib.hid hE0
  obtain ⟨n, hn⟩ : ∃ n, F.length = n := ⟨_, rfl⟩
  have hnd : (((n + 1 : Nat) : Int) != 0) = true := by rw [bne_iff_ne]; omega
  have hnd2 : (((n + 1 : Nat) : Int) == 0) = false := by rw [beq_eq_false_iff_ne]; omega
  rw [hn] at hF
  rw [hB, hn]
  have HN := Lib.hid hn
  have HB := Lib.hid hB
  clear hcut hd hE0 hB hn
  obtain ⟨x, hx⟩ : ∃ x, (dp - 1).natAbs = x := ⟨_, rfl⟩
  obtain ⟨sb, hsb⟩ : ∃ sb : UInt8, (if dp < 1 then (45 : UInt8) else 43) = sb := ⟨_, rfl⟩
  rw [hx, hsb]
  have hx6 : x ≤ 601 := by omega
  have HX := Lib.hid hx
  have HSB := Lib.hid hsb
  clear hx hsb
  go_enter Tryz.func62, Tryz.ntmps62
  go_upto_if 78 with (fail)
  go_cut [0] from 78 to 81 (fun s0 wx => Out B s0 (sg neg) wx ∧ Below B w wx)
  case first =>
    cases neg
    · go_wp2_with fail
      go_meet
      exact ⟨HE.out, Below.refl _ _⟩
    · go_wp2_with (at_builtin; refine wp_lit rfl _ _ rfl B w w (.slice none 0 0) [] [45] _ rfl rfl HE.out 1 rfl (by decide) (Below.refl _ _) hBl ?c1)
      case c1 =>
        intro v1 w1 h1 hb1
        have H1 := Lib.hid h1
        have H2 := Lib.hid hb1
        clear h1 hb1
        go_wp2_with fail
        go_meet
        exact ⟨H1.out, H2.out⟩
  case rest =>
    obtain ⟨h1, hb1⟩ := hcut
    have hc := HD.out _ hb1 0 (by simp)
    have hc' : wc.cell? ⟨g, 0, none⟩ = some (.int .u8 (c0.toNat : Int)) := hc
    have H1 := Lib.hid h1
    have H2 := Lib.hid hb1
    clear h1 hb1 hc
    go_wp2_with (at_builtin; refine wp_lit rfl _ _ rfl B w wc u0 _ [c0] _ rfl rfl H1.out 1 rfl (by cases neg <;> simp [sg]) H2.out hBl ?c1)
    case c1 =>
      intro v2 w2 h1 hb1
      clear H1 H2 hc'
      have H1 := Lib.hid h1
      have H2 := Lib.hid hb1
      clear h1 hb1
      go_upto_if 92 with (fail)
      go_cut [0] from 91 to 119 (fun s0 wx => Out B s0 (sg neg ++ [c0] ++ dotted F) wx ∧ Below B w wx)
      case first => 
        by_cases h0 : n = 0
        · subst h0
          have hF0 : F = [] := List.eq_nil_of_length_eq_zero HN.out
          subst hF0
          go_wp2_with fail
          go_meet
          refine ⟨?_, H2.out⟩
          have := H1.out
          simpa [dotted] using this
        · have hgt : (n : Int) > 0 := by omega
          go_wp2_with (at_builtin; refine wp_lit rfl _ _ rfl B w w2 v2 _ [46] _ rfl rfl H1.out 1 rfl (by cases neg <;> simp [sg]) H2.out hBl ?c2)
          case c2 =>
            intro v3 w3 h1 hb1
            clear H1 H2
            have H1 := Lib.hid h1
            have H2 := Lib.hid hb1
            clear h1 hb1
            have hs1 := HD.out _ H2.out
            have hsrc : ∀ j (h : j < F.length), w3.cell? ((⟨g, 1, none⟩ : Addr).add j) = some (eb (F[j]'h)) := fun j h => by
              have := hs1 (j + 1) (by simp; omega)
              have hadd : (⟨g, 1, none⟩ : Addr).add j = ⟨g, j + 1, none⟩ := by rw [Addr.add_lit, Nat.add_comm]
              rw [hadd]
              exact this
            have HS := Lib.hid hsrc
            clear hs1 hsrc
            go_wp2_with (at_builtin; refine wp_src rfl _ _ rfl B w w3 v3 _ F rfl H1.out ⟨g, 1, none⟩ 31 (by rw [HN.out]; rfl) HS.out (by have := HN.out; cases neg <;> simp [sg] <;> omega) H2.out hBl ?c3)
            case c3 =>
              intro v4 w4 h1 hb1
              clear H1 H2
              have H1 := Lib.hid h1
              have H2 := Lib.hid hb1
              clear h1 hb1
              go_wp2
              go_loopw [0, 114] (fun s0 i wr => s0 = v4 ∧ i = .int .i64 0 ∧ wr = w4) (fun _ _ _ => 0)
              case atStart => exact ⟨rfl, rfl, rfl⟩
              case round =>
                obtain ⟨rfl, rfl, rfl⟩ := hrel
                go_wp2_with fail
                go_meet
                refine ⟨?_, H2.out⟩
                have := H1.out
                have hne : F ≠ [] := fun e => by have := HN.out; rw [e] at this; exact h0 this.symm
                simpa [dotted, hne] using this
      case rest =>
        obtain ⟨h1, hb1⟩ := hcut
        clear H1 H2
        have H1 := Lib.hid h1
        have H2 := Lib.hid hb1
        clear h1 hb1
        have hl2 : (sg neg ++ [c0] ++ dotted F).length ≤ 40 := by
          have := HN.out
          unfold dotted sg
          split <;> split <;> simp <;> omega
        have HL := Lib.hid hl2
        clear hl2
        go_wp2_with (at_builtin; refine wp_lit rfl _ _ rfl B w wc u0 _ [101] _ rfl rfl H1.out 1 rfl (by have := HL.out; simp only [List.length_append, List.length_cons, List.length_nil] at this ⊢; omega) H2.out hBl ?c4)
        case c4 =>
          intro v5 w5 h1 hb1
          clear H1 H2
          have H1 := Lib.hid h1
          have H2 := Lib.hid hb1
          clear h1 hb1
          go_upto_if 129 with (fail)
          go_cut [19, 22] from 128 to 131 (fun s19 s22 wx => s19 = .int .u8 (sb.toNat : Int) ∧ s22 = .int .i64 (x : Int) ∧ wx = w5)
          case first =>
            by_cases h : dp < 1
            · have hlt : dp - 1 < 0 := by omega
              go_wp2
              go_meet
              refine ⟨?_, ?_, rfl⟩
              · rw [← HSB.out, if_pos h]; rfl
              · have := HX.out
                congr 1
                omega
            · have hlt : ¬ dp - 1 < 0 := by omega
              go_wp2
              go_meet
              refine ⟨?_, ?_, rfl⟩
              · rw [← HSB.out, if_neg (by omega)]; rfl
              · have := HX.out
                congr 1
                omega
          case rest =>
            obtain ⟨rfl, rfl, rfl⟩ := hcut
            go_wp2_with (at_builtin; refine wp_lit rfl _ _ rfl B w wc v5 _ [sb] _ rfl rfl H1.out 1 rfl (by have := HL.out; simp only [List.length_append, List.length_cons, List.length_nil] at this ⊢; omega) H2.out hBl ?c5)
            case c5 =>
              intro v6 wc h1 hb1
              clear H1 H2
              have H1 := Lib.hid h1
              have H2 := Lib.hid hb1
              clear h1 hb1
              have HL2 := Lib.hid (show (sg neg ++ [c0] ++ dotted F ++ [101] ++ [sb]).length ≤ 50 by have := HL.out; simp only [List.length_append, List.length_cons, List.length_nil] at this ⊢; omega)
              by_cases h10 : x < 10
              · have hx10 : (x : Int) < 10 := by omega
                go_wp2_with (at_builtin; refine wp_lit rfl _ _ rfl B w wc v6 _ [48, ech x] _ (lit2 (by rfl) (by rw [ech_nat h10]; omega)) rfl H1.out 2 rfl (by have := HL2.out; simp only [List.length_append, List.length_cons, List.length_nil] at this ⊢; omega) H2.out hBl ?c6)
                case c6 =>
                  intro v7 w7 h1 hb1
                  have hex : expo x = [48, ech x] := by unfold expo; rw [if_pos h10]
                  have H3 := Lib.hid h1
                  have H4 := Lib.hid hb1
                  have HX2 := Lib.hid hex
                  clear h1 hb1 H1 H2 hex
                  go_wp2
                  go_ret
                  refine ⟨_, rfl, ?_, H4.out⟩
                  have := H3.out
                  rw [HX2.out]
                  simpa using this
              · have hx10 : ¬ (x : Int) < 10 := by omega
                by_cases h100 : x < 100
                · have hx100 : (x : Int) < 100 := by omega
                  go_wp2_with (at_builtin; refine wp_lit rfl _ _ rfl B w wc v6 _ [ech (x / 10), ech (x % 10)] _ (lit2 (by rw [ech_nat (by omega)]; omega) (by rw [ech_nat (by omega)]; omega)) rfl H1.out 2 rfl (by have := HL2.out; simp only [List.length_append, List.length_cons, List.length_nil] at this ⊢; omega) H2.out hBl ?c6)
                  case c6 =>
                    intro v7 w7 h1 hb1
                    have hex : expo x = [ech (x / 10), ech (x % 10)] := by unfold expo; rw [if_neg h10, if_pos h100]
                    have H3 := Lib.hid h1
                    have H4 := Lib.hid hb1
                    have HX2 := Lib.hid hex
                    clear h1 hb1 H1 H2 hex
                    go_wp2
                    go_ret
                    refine ⟨_, rfl, ?_, H4.out⟩
                    have := H3.out
                    rw [HX2.out]
                    simpa using this
                · have hx100 : ¬ (x : Int) < 100 := by omega
                  go_wp2_with (at_builtin; refine wp_lit rfl _ _ rfl B w wc v6 _ [ech (x / 100), ech (x / 10 % 10), ech (x % 10)] _ (lit3 (by rw [ech_nat (by omega)]; omega) (by rw [ech_nat (by omega)]; omega) (by rw [ech_nat (by omega)]; omega)) rfl H1.out 3 rfl (by have := HL2.out; simp only [List.length_append, List.length_cons, List.length_nil] at this ⊢; omega) H2.out hBl ?c6)
                  case c6 =>
                    intro v7 w7 h1 hb1
                    have hex : expo x = [ech (x / 100), ech (x / 10 % 10), ech (x % 10)] := by unfold expo; rw [if_neg h10, if_neg h100]
                    have H3 := Lib.hid h1
                    have H4 := Lib.hid hb1
                    have HX2 := Lib.hid hex
                    clear h1 hb1 H1 H2 hex
                    go_wp2
                    go_ret
                    refine ⟨_, rfl, ?_, H4.out⟩
                    have := H3.out
                    rw [HX2.out]
                    simpa using this
end Go.Proofs.YtkkipddgkfidmaaGreatDoor
