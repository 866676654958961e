/- The contract of zap's safeAppendStringLike at a string: what it appends is the escaped text. For texts of at most 4000 bytes, into an empty buffer of the call's own. -/
import Derived.Test.YtlnidnihhfjcpaaGreatDoorWp
namespace Go.Proofs.YtlnidnihhfjcpaaGreatDoor
open Go.RowKit

theorem ZBuf.later {B b : Nat} {l : List UInt8} {w w' : World} (h : ZBuf B b l w) (hb : Below w.heap.size w w') : ZBuf B b l w' := by
  obtain ⟨sv, h1, h2⟩ := h
  exact ⟨sv, by rw [hb.block b (lt_of_block h1)]; exact h1, YtlnidnihhfjcpaaGreatDoor.later h2 hb⟩
theorem others_of_below {e : TypeId} {b : Option Nat} {w w' : World} (hb : Below w.heap.size w w') : Lib.OthersKept e b w w' := fun k o h _ _ => by rw [hb.block k (lt_of_block h)]; exact h

/-- What the loop keeps: the bytes from 'la' to 'k' are to be copied; what is in the buffer, these, and what is to come are the whole. -/
def EscInv (s : ByteArray) (la k : Nat) (l : List UInt8) : Prop := la ≤ k ∧ k ≤ s.size ∧ l ++ (s.data.toList.drop la).take (k - la) ++ esc (s.data.toList.drop k) = esc s.data.toList

theorem EscInv.start (s : ByteArray) : EscInv s 0 0 [] := ⟨Nat.le_refl _, Nat.zero_le _, by simp⟩
theorem EscInv.len {s : ByteArray} {la k : Nat} {l : List UInt8} (h : EscInv s la k l) : l.length ≤ 6 * s.size := by
  have h1 := congrArg List.length h.2.2
  have h2 := esc_length s.data.toList.length s.data.toList (Nat.le_refl _)
  have : s.data.toList.length = s.size := by simp
  simp only [List.length_append] at h1
  omega
theorem take_more (L : List UInt8) (la k n : Nat) (h : la ≤ k) : (L.drop la).take (k + n - la) = (L.drop la).take (k - la) ++ (L.drop k).take n := by
  have e1 : k + n - la = (k - la) + n := by omega
  rw [e1, List.take_add, List.drop_drop, show la + (k - la) = k by omega]
/-- The bytes that are copied are stepped over. -/
theorem EscInv.over {s : ByteArray} {la k n : Nat} {l : List UInt8} (h : EscInv s la k l) (hn : k + n ≤ s.size) (he : esc (s.data.toList.drop k) = (s.data.toList.drop k).take n ++ esc (s.data.toList.drop (k + n))) : EscInv s la (k + n) l := by
  refine ⟨by have := h.1; omega, hn, ?_⟩
  rw [take_more _ _ _ _ h.1, ← h.2.2, he]
  simp only [List.append_assoc]
/-- What was passed over is copied, and a byte's own letters behind it. -/
theorem EscInv.put {s : ByteArray} {la k : Nat} {l x : List UInt8} (h : EscInv s la k l) (hn : k < s.size) (he : esc (s.data.toList.drop k) = x ++ esc (s.data.toList.drop (k + 1))) : EscInv s (k + 1) (k + 1) (l ++ (s.data.toList.drop la).take (k - la) ++ x) := by
  refine ⟨Nat.le_refl _, hn, ?_⟩
  rw [Nat.sub_self, List.take_zero, List.append_nil, ← h.2.2, he]
  simp only [List.append_assoc]
theorem EscInv.done {s : ByteArray} {la : Nat} {l : List UInt8} (h : EscInv s la s.size l) : l ++ s.data.toList.drop la = esc s.data.toList := by
  have h3 := h.2.2
  have : s.data.toList.length = s.size := by simp
  rw [List.drop_of_length_le (l := s.data.toList) (i := s.size) (by omega), esc_nil, List.append_nil, List.take_of_length_le (by simp)] at h3
  exact h3

theorem ext_list (s : ByteArray) (a b : Nat) : (s.extract a b).data.toList = (s.data.toList.drop a).take (b - a) := Lib.extract_data s a b

/-- What was passed over is copied. -/
theorem bufCut (B b : Nat) (l : List UInt8) (s : ByteArray) (la k : Nat) (w : World) (hz : ZBuf B b l w) (hlen : l.length + s.size ≤ 140737488355328) (hB : B ≤ b) (hBw : B ≤ w.heap.size) :
    Calls Tryz.prog 54 #[.pointer (some ⟨b, 0, none⟩), .string (s.extract la k)] w fun e w' => e = .returned (.tuple #[]) ∧ ZBuf B b (l ++ (s.data.toList.drop la).take (k - la)) w' ∧ Below B w w' ∧ Lib.OthersKept 5 (some b) w w' := by
  have := bufString B b l (s.extract la k) w hz (by rw [ByteArray.size_extract]; omega) hB hBw
  rwa [ext_list] at this

theorem EscInv.done2 {s : ByteArray} {la : Nat} {l : List UInt8} (h : EscInv s la s.size l) : l ++ (s.data.toList.drop la).take (s.size - la) = esc s.data.toList := by
  have := h.done
  rw [List.take_of_length_le (by simp)]
  exact this

theorem plain_of {c : UInt8} (h0 : 32 ≤ (c.toNat : Int)) (h1 : (c.toNat : Int) ≠ 92) (h2 : (c.toNat : Int) ≠ 34) : plainB c = true := by
  unfold plainB
  simp only [Bool.and_eq_true, decide_eq_true_eq, bne_iff_ne]
  omega
theorem special_of {c : UInt8} (h : (c.toNat : Int) < 32 ∨ (c.toNat : Int) = 92 ∨ (c.toNat : Int) = 34) : plainB c = false := by
  rw [← Bool.not_eq_true]
  unfold plainB
  simp only [Bool.and_eq_true, decide_eq_true_eq, bne_iff_ne]
  omega

theorem EscInv.len2 {s : ByteArray} {la k : Nat} {l : List UInt8} (h : EscInv s la k l) : (l ++ (s.data.toList.drop la).take (k - la)).length ≤ 6 * s.size := by
  have h1 := congrArg List.length h.2.2
  have h2 := esc_length s.data.toList.length s.data.toList (Nat.le_refl _)
  have : s.data.toList.length = s.size := by simp
  rw [List.length_append] at h1
  omega
theorem hex_get (n : Nat) (h : n < (⟨#[48, 49, 50, 51, 52, 53, 54, 55, 56, 57, 97, 98, 99, 100, 101, 102]⟩ : ByteArray).size) : (⟨#[48, 49, 50, 51, 52, 53, 54, 55, 56, 57, 97, 98, 99, 100, 101, 102]⟩ : ByteArray)[n]'h = hexD n := by
  have h' : n < 16 := h
  have key : ∀ m : Fin 16, (⟨#[48, 49, 50, 51, 52, 53, 54, 55, 56, 57, 97, 98, 99, 100, 101, 102]⟩ : ByteArray)[m.val]'(m.isLt) = hexD m.val := by decide
  exact key ⟨n, h'⟩
theorem esc_quote {c : UInt8} (h : (c.toNat : Int) = 92 ∨ (c.toNat : Int) = 34) (A : List UInt8) : (A ++ [92]) ++ [c] = A ++ escC c := by
  unfold escC
  rw [if_pos (by omega)]
  simp
theorem esc_n {c : UInt8} (h : (c.toNat : Int) = 10) (A : List UInt8) : (A ++ [92]) ++ [110] = A ++ escC c := by
  unfold escC
  rw [if_neg (by omega), if_pos (by omega)]
  simp
theorem esc_r {c : UInt8} (h : (c.toNat : Int) = 13) (A : List UInt8) : (A ++ [92]) ++ [114] = A ++ escC c := by
  unfold escC
  rw [if_neg (by omega), if_neg (by omega), if_pos (by omega)]
  simp
theorem esc_t {c : UInt8} (h : (c.toNat : Int) = 9) (A : List UInt8) : (A ++ [92]) ++ [116] = A ++ escC c := by
  unfold escC
  rw [if_neg (by omega), if_neg (by omega), if_neg (by omega), if_pos (by omega)]
  simp
theorem esc_u {c : UInt8} (h : (c.toNat : Int) < 32) (h1 : (c.toNat : Int) ≠ 10) (h2 : (c.toNat : Int) ≠ 13) (h3 : (c.toNat : Int) ≠ 9) (A : List UInt8) : ((A ++ [92, 117, 48, 48]) ++ [hexD (c.toNat / 16)]) ++ [hexD (c.toNat % 16)] = A ++ escC c := by
  unfold escC
  rw [if_neg (by omega), if_neg (by omega), if_neg (by omega), if_neg (by omega)]
  simp

set_option maxRecDepth 100000 in
set_option maxHeartbeats 4000000 in
theorem safeAppend (s : ByteArray) (hs : s.size ≤ 4000) (B b : Nat) (w : World) (hz : ZBuf B b [] w) (hB : B ≤ b) (hBw : B ≤ w.heap.size) (hU : UTab B w) :
    Calls Tryz.prog 93 #[.func (.func 54) #[] #[], .func (.func 31) #[] #[], .pointer (some ⟨b, 0, none⟩), .string s] w fun e w' => e = .returned (.tuple #[]) ∧ ZBuf B b (esc s.data.toList) w' ∧ Below B w w' ∧ Lib.OthersKept 5 (some b) w w' := by
  have hls : s.data.toList.length = s.size := by simp
  have HU := Lib.hid hU
  have HZ := Lib.hid hz
  clear hU hz
  go_enter Tryz.func93, Tryz.ntmps93
  go_wp2
  go_loopw [8, 9] (fun a i wr => ∃ (la k : Nat) (l : List UInt8), a = .int .i64 la ∧ i = .int .i64 k ∧ EscInv s la k l ∧ ZBuf B b l wr ∧ Below B w wr ∧ Lib.OthersKept 5 (some b) w wr) (fun _ i _ => s.size - (intOf i).toNat)
  case atStart => exact ⟨0, 0, [], rfl, rfl, EscInv.start s, HZ.out, Below.refl _ _, Lib.OthersKept.refl _ _ _⟩
  case round =>
    obtain ⟨la, k, l, rfl, rfl, hinv, hz, hb, hk⟩ := hrel
    have hla := hinv.1
    have hks := hinv.2.1
    have hll := hinv.len
    have hl2 := hinv.len2
    have hbs := hb.size
    have HI := Lib.hid hinv
    have H1 := Lib.hid hz
    have H2 := Lib.hid hb
    have H3 := Lib.hid hk
    clear hinv hz hb hk hls HZ
    by_cases hlt : k < s.size
    · have HC := Lib.hid (drop_cons s k hlt)
      by_cases h128 : 128 ≤ (s[k].toNat : Int)
      · obtain ⟨R, hR⟩ : ∃ R, (dec (s.data.toList.drop k)).1 = R := ⟨_, rfl⟩
        obtain ⟨K, hK⟩ : ∃ K, (dec (s.data.toList.drop k)).2 = K := ⟨_, rfl⟩
        have hd : dec (s.data.toList.drop k) = (R, K) := by rw [← hR, ← hK]
        have hls : s.data.toList.length = s.size := by simp
        have hw := dec_width (drop_ne (l := s.data.toList) (k := k) (by omega))
        rw [hd, List.length_drop, hls] at hw
        simp only at hw
        obtain ⟨hw1, hw2, hw3⟩ := hw
        have HD := Lib.hid hd
        clear hR hK hd hls
        by_cases hr : R = 65533 ∧ K = 1
        · obtain ⟨rfl, rfl⟩ := hr
          have HN := Lib.hid (HI.out.put hlt (show esc (s.data.toList.drop k) = [92, 117, 102, 102, 102, 100] ++ esc (s.data.toList.drop (k + 1)) by
            rw [HC.out]
            exact esc_broken (by omega) (fun h => h (by rw [← HC.out, HD.out]; exact ⟨rfl, rfl⟩))))
          go_wp2_with fail
          refine (decodeAt s k 65533 1 hlt HD.out B wr (HU.out.on H2.out)).mono ?_
          rintro e w0 ⟨rfl, g0⟩
          have s0 := g0.size
          have C1 := Lib.hid (ZBuf.later H1.out g0)
          have C2 := Lib.hid (H2.out.trans (g0.mono (by omega)))
          have C3 := Lib.hid (H3.out.trans (others_of_below g0))
          clear g0
          go_wp2_with fail
          refine (bufCut B b l s la k w0 C1.out (by omega) hB (by omega)).mono ?_
          rintro e w1 ⟨rfl, g1, g2, g3⟩
          have s1 := g2.size
          have G1 := Lib.hid g1
          have G2 := Lib.hid (C2.out.trans g2)
          have G3 := Lib.hid (C3.out.trans g3)
          clear g1 g2 g3
          go_wp2_with fail
          refine (bufString B b _ ⟨#[92, 117, 102, 102, 102, 100]⟩ w1 G1.out (by show _ + 6 ≤ _; omega) hB (by omega)).mono ?_
          rintro e w2 ⟨rfl, g1, g2, g3⟩
          have D1 := Lib.hid (show ZBuf B b ((l ++ (s.data.toList.drop la).take (k - la)) ++ [92, 117, 102, 102, 102, 100]) w2 from g1)
          have D2 := Lib.hid (G2.out.trans g2)
          have D3 := Lib.hid (G3.out.trans g3)
          clear g1 g2 g3
          go_wp2
          go_roundw
          case rel => exact ⟨k + 1, k + 1, _, by go_num, by go_num, HN.out, D1.out, D2.out, D3.out⟩
          case measure => simp [intOf]; omega
        · have HN := Lib.hid (HI.out.over (n := K) (by omega) (by
            rw [HC.out, esc_whole (by omega) (fun h => hr (by rw [← HC.out, HD.out] at h; exact h)), ← HC.out, HD.out, List.drop_drop]))
          have hkind : ((R : Int) != 65533) = true ∨ (((R : Int) != 65533) = false ∧ ((K : Int) != 1) = true) := by
            by_cases hR : R = 65533
            · right
              subst hR
              exact ⟨rfl, by rw [bne_iff_ne]; omega⟩
            · left
              rw [bne_iff_ne]; omega
          clear hr
          rcases hkind with hb1 | ⟨hb1, hb2⟩
          all_goals
            go_wp2_with fail
            refine (decodeAt s k R K hlt HD.out B wr (HU.out.on H2.out)).mono ?_
            rintro e w0 ⟨rfl, g0⟩
            have C1 := Lib.hid (ZBuf.later H1.out g0)
            have C2 := Lib.hid (H2.out.trans (g0.mono (by omega)))
            have C3 := Lib.hid (H3.out.trans (others_of_below g0))
            clear g0
            go_wp2
            go_roundw
            case rel => exact ⟨la, k + K, l, rfl, by go_num, HN.out, C1.out, C2.out, C3.out⟩
            case measure => simp [intOf]; omega
      · by_cases hp : 32 ≤ (s[k].toNat : Int) ∧ (s[k].toNat : Int) ≠ 92 ∧ (s[k].toNat : Int) ≠ 34
        · obtain ⟨hp1, hp2, hp3⟩ := hp
          have hq : esc (s.data.toList.drop k) = (s.data.toList.drop k).take 1 ++ esc (s.data.toList.drop (k + 1)) := by
            rw [HC.out, esc_plain (by omega) (plain_of hp1 hp2 hp3)]; rfl
          have HN := Lib.hid (HI.out.over (n := 1) (by omega) hq)
          have b2 : ((s[k].toNat : Int) != 92) = true := by rw [bne_iff_ne]; exact hp2
          have b3 : ((s[k].toNat : Int) != 34) = true := by rw [bne_iff_ne]; exact hp3
          clear hq hp2 hp3
          go_wp2
          go_roundw
          case rel => exact ⟨la, k + 1, l, rfl, by go_num, HN.out, H1.out, H2.out, H3.out⟩
          case measure => simp [intOf]; omega
        · have hsp : (s[k].toNat : Int) < 32 ∨ (s[k].toNat : Int) = 92 ∨ (s[k].toNat : Int) = 34 := by omega
          have HS := Lib.hid (special_of hsp)
          have HQ := Lib.hid (show esc (s.data.toList.drop k) = escC s[k] ++ esc (s.data.toList.drop (k + 1)) by rw [HC.out, esc_special (by omega) HS.out])
          have HN := Lib.hid (HI.out.put hlt HQ.out)
          clear hp
          rcases hsp with hsp | hsp | hsp
          · have b2 : ((s[k].toNat : Int) == 92) = false := by rw [beq_eq_false_iff_ne]; omega
            have b3 : ((s[k].toNat : Int) == 34) = false := by rw [beq_eq_false_iff_ne]; omega
            by_cases h10 : (s[k].toNat : Int) = 10
            · have b4 : ((s[k].toNat : Int) == 10) = true := by rw [beq_iff_eq]; exact h10
              have HK := Lib.hid (esc_n h10 (l ++ (s.data.toList.drop la).take (k - la)))
              clear h10
              go_wp2_with fail
              refine (bufCut B b l s la k wr H1.out (by omega) hB (by omega)).mono ?_
              rintro e w1 ⟨rfl, g1, g2, g3⟩
              have s1 := g2.size
              have G1 := Lib.hid g1
              have G2 := Lib.hid (H2.out.trans g2)
              have G3 := Lib.hid (H3.out.trans g3)
              clear g1 g2 g3
              go_wp2_with fail
              refine (bufByte B b _ (92) _ rfl w1 G1.out (by omega) hB (by omega)).mono ?_
              rintro e w2 ⟨rfl, g1, g2, g3⟩
              have s2 := g2.size
              have D1 := Lib.hid g1
              have D2 := Lib.hid (G2.out.trans g2)
              have D3 := Lib.hid (G3.out.trans g3)
              clear g1 g2 g3
              go_wp2_with fail
              refine (bufByte B b _ (110) _ rfl w2 D1.out (by simp only [List.length_append, List.length_cons, List.length_nil] at *; omega) hB (by omega)).mono ?_
              rintro e w3 ⟨rfl, g1, g2, g3⟩
              have s3 := g2.size
              have E1 := Lib.hid g1
              have E2 := Lib.hid (D2.out.trans g2)
              have E3 := Lib.hid (D3.out.trans g3)
              clear g1 g2 g3
              go_wp2
              go_roundw
              case rel => exact ⟨k + 1, k + 1, _, by go_num, by go_num, HN.out, by rw [← HK.out]; exact E1.out, E2.out, E3.out⟩
              case measure => simp [intOf]; omega
            by_cases h13 : (s[k].toNat : Int) = 13
            · have b4 : ((s[k].toNat : Int) == 10) = false := by rw [beq_eq_false_iff_ne]; exact h10
              have b5 : ((s[k].toNat : Int) == 13) = true := by rw [beq_iff_eq]; exact h13
              have HK := Lib.hid (esc_r h13 (l ++ (s.data.toList.drop la).take (k - la)))
              clear h10 h13
              go_wp2_with fail
              refine (bufCut B b l s la k wr H1.out (by omega) hB (by omega)).mono ?_
              rintro e w1 ⟨rfl, g1, g2, g3⟩
              have s1 := g2.size
              have G1 := Lib.hid g1
              have G2 := Lib.hid (H2.out.trans g2)
              have G3 := Lib.hid (H3.out.trans g3)
              clear g1 g2 g3
              go_wp2_with fail
              refine (bufByte B b _ (92) _ rfl w1 G1.out (by omega) hB (by omega)).mono ?_
              rintro e w2 ⟨rfl, g1, g2, g3⟩
              have s2 := g2.size
              have D1 := Lib.hid g1
              have D2 := Lib.hid (G2.out.trans g2)
              have D3 := Lib.hid (G3.out.trans g3)
              clear g1 g2 g3
              go_wp2_with fail
              refine (bufByte B b _ (114) _ rfl w2 D1.out (by simp only [List.length_append, List.length_cons, List.length_nil] at *; omega) hB (by omega)).mono ?_
              rintro e w3 ⟨rfl, g1, g2, g3⟩
              have s3 := g2.size
              have E1 := Lib.hid g1
              have E2 := Lib.hid (D2.out.trans g2)
              have E3 := Lib.hid (D3.out.trans g3)
              clear g1 g2 g3
              go_wp2
              go_roundw
              case rel => exact ⟨k + 1, k + 1, _, by go_num, by go_num, HN.out, by rw [← HK.out]; exact E1.out, E2.out, E3.out⟩
              case measure => simp [intOf]; omega
            by_cases h9 : (s[k].toNat : Int) = 9
            · have b4 : ((s[k].toNat : Int) == 10) = false := by rw [beq_eq_false_iff_ne]; exact h10
              have b5 : ((s[k].toNat : Int) == 13) = false := by rw [beq_eq_false_iff_ne]; exact h13
              have b6 : ((s[k].toNat : Int) == 9) = true := by rw [beq_iff_eq]; exact h9
              have HK := Lib.hid (esc_t h9 (l ++ (s.data.toList.drop la).take (k - la)))
              clear h10 h13 h9
              go_wp2_with fail
              refine (bufCut B b l s la k wr H1.out (by omega) hB (by omega)).mono ?_
              rintro e w1 ⟨rfl, g1, g2, g3⟩
              have s1 := g2.size
              have G1 := Lib.hid g1
              have G2 := Lib.hid (H2.out.trans g2)
              have G3 := Lib.hid (H3.out.trans g3)
              clear g1 g2 g3
              go_wp2_with fail
              refine (bufByte B b _ (92) _ rfl w1 G1.out (by omega) hB (by omega)).mono ?_
              rintro e w2 ⟨rfl, g1, g2, g3⟩
              have s2 := g2.size
              have D1 := Lib.hid g1
              have D2 := Lib.hid (G2.out.trans g2)
              have D3 := Lib.hid (G3.out.trans g3)
              clear g1 g2 g3
              go_wp2_with fail
              refine (bufByte B b _ (116) _ rfl w2 D1.out (by simp only [List.length_append, List.length_cons, List.length_nil] at *; omega) hB (by omega)).mono ?_
              rintro e w3 ⟨rfl, g1, g2, g3⟩
              have s3 := g2.size
              have E1 := Lib.hid g1
              have E2 := Lib.hid (D2.out.trans g2)
              have E3 := Lib.hid (D3.out.trans g3)
              clear g1 g2 g3
              go_wp2
              go_roundw
              case rel => exact ⟨k + 1, k + 1, _, by go_num, by go_num, HN.out, by rw [← HK.out]; exact E1.out, E2.out, E3.out⟩
              case measure => simp [intOf]; omega
            have b4 : ((s[k].toNat : Int) == 10) = false := by rw [beq_eq_false_iff_ne]; omega
            have b5 : ((s[k].toNat : Int) == 13) = false := by rw [beq_eq_false_iff_ne]; omega
            have b6 : ((s[k].toNat : Int) == 9) = false := by rw [beq_eq_false_iff_ne]; omega
            have HK := Lib.hid (esc_u hsp h10 h13 h9 (l ++ (s.data.toList.drop la).take (k - la)))
            clear h10 h13 h9
            go_wp2_with fail
            refine (bufCut B b l s la k wr H1.out (by omega) hB (by omega)).mono ?_
            rintro e w1 ⟨rfl, g1, g2, g3⟩
            have s1 := g2.size
            have G1 := Lib.hid g1
            have G2 := Lib.hid (H2.out.trans g2)
            have G3 := Lib.hid (H3.out.trans g3)
            clear g1 g2 g3
            go_wp2_with fail
            refine (bufString B b _ ⟨#[92, 117, 48, 48]⟩ w1 G1.out (by show _ + 4 ≤ _; omega) hB (by omega)).mono ?_
            rintro e w2 ⟨rfl, g1, g2, g3⟩
            have s2 := g2.size
            have D1 := Lib.hid (show ZBuf B b ((l ++ (s.data.toList.drop la).take (k - la)) ++ [92, 117, 48, 48]) w2 from g1)
            have D2 := Lib.hid (G2.out.trans g2)
            have D3 := Lib.hid (G3.out.trans g3)
            clear g1 g2 g3
            go_wp2_with fail
            refine (bufByte B b _ (hexD (s[k].toNat / 16)) _ (by rw [hex_get]) w2 D1.out (by simp only [List.length_append, List.length_cons, List.length_nil] at *; omega) hB (by omega)).mono ?_
            rintro e w3 ⟨rfl, g1, g2, g3⟩
            have s3 := g2.size
            have E1 := Lib.hid g1
            have E2 := Lib.hid (D2.out.trans g2)
            have E3 := Lib.hid (D3.out.trans g3)
            clear g1 g2 g3
            go_wp2_with fail
            refine (bufByte B b _ (hexD (s[k].toNat % 16)) _ (by rw [hex_get]) w3 E1.out (by simp only [List.length_append, List.length_cons, List.length_nil] at *; omega) hB (by omega)).mono ?_
            rintro e w4 ⟨rfl, g1, g2, g3⟩
            have s4 := g2.size
            have F1 := Lib.hid g1
            have F2 := Lib.hid (E2.out.trans g2)
            have F3 := Lib.hid (E3.out.trans g3)
            clear g1 g2 g3
            go_wp2
            go_roundw
            case rel => exact ⟨k + 1, k + 1, _, by go_num, by go_num, HN.out, by rw [← HK.out]; exact F1.out, F2.out, F3.out⟩
            case measure => simp [intOf]; omega
          · have b2 : ((s[k].toNat : Int) == 92) = true := by rw [beq_iff_eq]; exact hsp
            have b3 : ((s[k].toNat : Int) != 92) = false := by rw [hsp]; rfl
            have h32 : 32 ≤ (s[k].toNat : Int) := by omega
            have HK := Lib.hid (esc_quote (.inl hsp) (l ++ (s.data.toList.drop la).take (k - la)))
            clear hsp
            go_wp2_with fail
            refine (bufCut B b l s la k wr H1.out (by omega) hB (by omega)).mono ?_
            rintro e w1 ⟨rfl, g1, g2, g3⟩
            have s1 := g2.size
            have G1 := Lib.hid g1
            have G2 := Lib.hid (H2.out.trans g2)
            have G3 := Lib.hid (H3.out.trans g3)
            clear g1 g2 g3
            go_wp2_with fail
            refine (bufByte B b _ (92) _ rfl w1 G1.out (by omega) hB (by omega)).mono ?_
            rintro e w2 ⟨rfl, g1, g2, g3⟩
            have s2 := g2.size
            have D1 := Lib.hid g1
            have D2 := Lib.hid (G2.out.trans g2)
            have D3 := Lib.hid (G3.out.trans g3)
            clear g1 g2 g3
            go_wp2_with fail
            refine (bufByte B b _ (s[k]) _ rfl w2 D1.out (by simp only [List.length_append, List.length_cons, List.length_nil] at *; omega) hB (by omega)).mono ?_
            rintro e w3 ⟨rfl, g1, g2, g3⟩
            have s3 := g2.size
            have E1 := Lib.hid g1
            have E2 := Lib.hid (D2.out.trans g2)
            have E3 := Lib.hid (D3.out.trans g3)
            clear g1 g2 g3
            go_wp2
            go_roundw
            case rel => exact ⟨k + 1, k + 1, _, by go_num, by go_num, HN.out, by rw [← HK.out]; exact E1.out, E2.out, E3.out⟩
            case measure => simp [intOf]; omega
          · have b2 : ((s[k].toNat : Int) == 92) = false := by rw [hsp]; rfl
            have b3 : ((s[k].toNat : Int) != 92) = true := by rw [hsp]; rfl
            have b4 : ((s[k].toNat : Int) != 34) = false := by rw [hsp]; rfl
            have b5 : ((s[k].toNat : Int) == 34) = true := by rw [beq_iff_eq]; exact hsp
            have h32 : 32 ≤ (s[k].toNat : Int) := by omega
            have HK := Lib.hid (esc_quote (.inr hsp) (l ++ (s.data.toList.drop la).take (k - la)))
            clear hsp
            go_wp2_with fail
            refine (bufCut B b l s la k wr H1.out (by omega) hB (by omega)).mono ?_
            rintro e w1 ⟨rfl, g1, g2, g3⟩
            have s1 := g2.size
            have G1 := Lib.hid g1
            have G2 := Lib.hid (H2.out.trans g2)
            have G3 := Lib.hid (H3.out.trans g3)
            clear g1 g2 g3
            go_wp2_with fail
            refine (bufByte B b _ (92) _ rfl w1 G1.out (by omega) hB (by omega)).mono ?_
            rintro e w2 ⟨rfl, g1, g2, g3⟩
            have s2 := g2.size
            have D1 := Lib.hid g1
            have D2 := Lib.hid (G2.out.trans g2)
            have D3 := Lib.hid (G3.out.trans g3)
            clear g1 g2 g3
            go_wp2_with fail
            refine (bufByte B b _ (s[k]) _ rfl w2 D1.out (by simp only [List.length_append, List.length_cons, List.length_nil] at *; omega) hB (by omega)).mono ?_
            rintro e w3 ⟨rfl, g1, g2, g3⟩
            have s3 := g2.size
            have E1 := Lib.hid g1
            have E2 := Lib.hid (D2.out.trans g2)
            have E3 := Lib.hid (D3.out.trans g3)
            clear g1 g2 g3
            go_wp2
            go_roundw
            case rel => exact ⟨k + 1, k + 1, _, by go_num, by go_num, HN.out, by rw [← HK.out]; exact E1.out, E2.out, E3.out⟩
            case measure => simp [intOf]; omega
    · obtain rfl : k = s.size := by omega
      go_wp2_with fail
      refine (bufCut B b l s la s.size wr H1.out (by omega) hB (by omega)).mono ?_
      rintro e w1 ⟨rfl, g1, g2, g3⟩
      rw [HI.out.done2] at g1
      have G1 := Lib.hid g1
      have G2 := Lib.hid (H2.out.trans g2)
      have G3 := Lib.hid (H3.out.trans g3)
      clear g1 g2 g3
      go_wp2
      go_returns
      exact ⟨rfl, G1.out, G2.out, G3.out⟩
end Go.Proofs.YtlnidnihhfjcpaaGreatDoor
