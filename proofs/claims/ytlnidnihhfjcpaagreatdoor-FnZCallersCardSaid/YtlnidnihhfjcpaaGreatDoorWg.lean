/- The contract of the reference's ZShort: a path from its last directory on, and the line. -/
import Derived.Test.YtlnidnihhfjcpaaGreatDoorWf
import Derived.Deep.RegionWith
import Derived.StillTailTactics
import Derived.Lib.ItoaLen
namespace Go.Proofs.YtlnidnihhfjcpaaGreatDoor
open Go.RowKit

theorem lastIdx_extract (s : ByteArray) (i : Nat) (hi : i ≤ s.size) : ∀ k, k ≤ i → Lib.lastIdx (s.extract 0 i) 47 k = Lib.lastIdx s 47 k
  | 0, _ => rfl
  | k + 1, h => by
    have e : (s.extract 0 i).data[k]! = s.data[k]! := by
      have h1 : k < (s.extract 0 i).data.size := by show k < (s.extract 0 i).size; simp; omega
      have h2 : k < s.data.size := by show k < s.size; omega
      rw [getElem!_pos (s.extract 0 i).data k h1, getElem!_pos s.data k h2]
      simp
    unfold Lib.lastIdx
    rw [e, lastIdx_extract s i hi k (by omega)]

/-- What the loop keeps: k bytes are left; c slashes stand behind them. -/
def SlashInv (s : ByteArray) (k : Nat) (c : Int) : Prop :=
  (c = 0 ∧ Lib.lastIndexByte s 47 = Lib.lastIdx s 47 k) ∨ (c = 1 ∧ ∃ i : Nat, i < s.size ∧ Lib.lastIndexByte s 47 = i ∧ k ≤ i ∧ Lib.lastIdx s 47 i = Lib.lastIdx s 47 k)

theorem SlashInv.miss {s : ByteArray} {m : Nat} {c : Int} (h : SlashInv s (m + 1) c) (hm : m < s.size) (hne : (s[m].toNat : Int) ≠ 47) : SlashInv s m c := by
  have e : s.data[m]! = s[m] := getElem!_pos s.data m (show m < s.data.size from hm)
  have em := Lib.lastIdx_miss s 47 m (by rw [e]; exact hne)
  rcases h with ⟨h0, h1⟩ | ⟨h0, i, hi, h1, h2, h3⟩
  · exact .inl ⟨h0, by rw [h1, em]⟩
  · exact .inr ⟨h0, i, hi, h1, by omega, by rw [h3, em]⟩
theorem SlashInv.hit0 {s : ByteArray} {m : Nat} (h : SlashInv s (m + 1) 0) (hm : m < s.size) (heq : (s[m].toNat : Int) = 47) : SlashInv s m 1 := by
  have e : s.data[m]! = s[m] := getElem!_pos s.data m (show m < s.data.size from hm)
  have eh := Lib.lastIdx_hit s 47 m (by rw [e]; exact heq)
  rcases h with ⟨_, h1⟩ | ⟨h0, _⟩
  · exact .inr ⟨rfl, m, hm, by rw [h1, eh], Nat.le_refl _, rfl⟩
  · omega
theorem SlashInv.hit1 {s : ByteArray} {m : Nat} (h : SlashInv s (m + 1) 1) (hm : m < s.size) (heq : (s[m].toNat : Int) = 47) : shortAt s = m + 1 := by
  have e : s.data[m]! = s[m] := getElem!_pos s.data m (show m < s.data.size from hm)
  have eh := Lib.lastIdx_hit s 47 m (by rw [e]; exact heq)
  rcases h with ⟨h0, _⟩ | ⟨_, i, hi, h1, h2, h3⟩
  · omega
  · have hsz : (s.extract 0 i).size = i := by simp; omega
    unfold shortAt
    rw [if_neg (by omega), h1, Int.toNat_natCast]
    unfold Lib.lastIndexByte
    rw [hsz, lastIdx_extract s i (by omega) i (Nat.le_refl _), h3, eh]
    omega
theorem SlashInv.done {s : ByteArray} {c : Int} (h : SlashInv s 0 c) : shortAt s = 0 := by
  rcases h with ⟨_, h1⟩ | ⟨_, i, hi, h1, h2, h3⟩
  · unfold shortAt
    rw [if_pos (show Lib.lastIndexByte s 47 = -1 from h1)]
  · have hsz : (s.extract 0 i).size = i := by simp; omega
    unfold shortAt
    rw [if_neg (by omega), h1, Int.toNat_natCast]
    unfold Lib.lastIndexByte
    rw [hsz, lastIdx_extract s i (by omega) i (Nat.le_refl _), h3]
    rfl
theorem SlashInv.start (s : ByteArray) : SlashInv s s.size 0 := .inl ⟨rfl, rfl⟩
theorem SlashInv.cases {s : ByteArray} {k : Nat} {c : Int} (h : SlashInv s k c) : c = 0 ∨ c = 1 := by
  rcases h with ⟨h, _⟩ | ⟨h, _⟩
  · exact .inl h
  · exact .inr h

theorem short_of {s : ByteArray} {k : Nat} (line : Int) (h : shortAt s = k) : shortB s line = ⟨(s.data.toList.drop k ++ 58 :: Lib.itoa line).toArray⟩ := by unfold shortB; rw [h]

theorem cat3 (s : ByteArray) (k : Nat) (line : Int) : (s.extract k s.size ++ ⟨#[58]⟩ ++ ⟨(Lib.itoa line).toArray⟩ : ByteArray) = ⟨(s.data.toList.drop k ++ 58 :: Lib.itoa line).toArray⟩ := by
  apply ByteArray.ext
  apply Array.toList_inj.1
  simp
  exact List.take_of_length_le (by simp)
theorem extract_all (s : ByteArray) : s.extract 0 s.size = s := by
  apply ByteArray.ext
  apply Array.toList_inj.1
  simp

set_option maxHeartbeats 1000000 in
theorem zshort (s : ByteArray) (line : Int) (hs : s.size ≤ 140737488355000) (h0 : -9223372036854775808 ≤ line) (h1 : line ≤ 9223372036854775807) (w : World) (htab : Tab w.heap.size w) :
    Calls Tryz.prog 15 #[.string s, .int .i64 line] w fun e w' => e = .returned (.string (shortB s line)) ∧ Below w.heap.size w w' := by
  have HT := Lib.hid htab
  clear htab
  go_enter Tryz.func15, Tryz.ntmps15
  go_wp2
  go_loop [5, 6] (fun f c => ∃ (k : Nat) (n : Int), k ≤ s.size ∧ f = .int .i64 k ∧ c = .int .i64 n ∧ SlashInv s k n) (fun f _ => (intOf f).toNat)
  case atStart => exact ⟨s.size, 0, Nat.le_refl _, rfl, rfl, SlashInv.start s⟩
  case round =>
    obtain ⟨k, n, hk, rfl, rfl, hinv⟩ := hrel
    rcases Nat.eq_zero_or_pos k with rfl | hpos
    · have HD := Lib.hid hinv.done
      clear hinv
      have hil := Lib.itoa_length_le line h0 h1
      go_wp2_with fail
      go_region_with (go_at_call 14; refine (itoa_any line h0 h1 _ w.heap.size (HT.out.on (by go_grown))).mono ?_; rintro e w1 ⟨rfl, hb1⟩)
      all_goals
        go_wp2
        go_ret
        exact ⟨by rw [short_of line HD.out, ← cat3, extract_all]; rfl, (show Below w.heap.size w w.drew by go_grown).trans hb1⟩
    · obtain ⟨m, rfl⟩ : ∃ m, k = m + 1 := ⟨k - 1, by omega⟩
      have hm : m < s.size := by omega
      by_cases h47 : (s[m].toNat : Int) = 47
      · have e47 : ((s[m].toNat : Int) == 47) = true := by rw [beq_iff_eq]; exact h47
        rcases hinv.cases with rfl | rfl
        · have HI := Lib.hid (hinv.hit0 hm h47)
          clear hinv h47
          go_wp2
          go_round
          case rel => exact ⟨m, 1, by omega, by go_num, rfl, HI.out⟩
          case measure => simp [intOf]
        · have HD := Lib.hid (hinv.hit1 hm h47)
          clear hinv h47
          have hil := Lib.itoa_length_le line h0 h1
          go_wp2_with fail
          go_region_with (go_at_call 14; refine (itoa_any line h0 h1 _ w.heap.size (HT.out.on (by go_grown))).mono ?_; rintro e w1 ⟨rfl, hb1⟩)
          all_goals
            go_wp2
            go_ret
            exact ⟨by rw [short_of line HD.out, ← cat3]; rfl, (show Below w.heap.size w w.drew by go_grown).trans hb1⟩
      · have e47 : ((s[m].toNat : Int) == 47) = false := by rw [beq_eq_false_iff_ne]; exact h47
        have HI := Lib.hid (hinv.miss hm h47)
        clear hinv h47
        go_wp2
        go_round
        case rel => exact ⟨m, n, by omega, by go_num, rfl, HI.out⟩
        case measure => simp [intOf]
end Go.Proofs.YtlnidnihhfjcpaaGreatDoor
