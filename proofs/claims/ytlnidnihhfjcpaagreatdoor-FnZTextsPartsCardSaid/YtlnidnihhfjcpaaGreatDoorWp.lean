/- The contract of the reference's JTrue8: a text with the replacement character in the place of each byte that is no UTF-8. For texts of at most 4000 bytes. -/
import Derived.Test.YtlnidnihhfjcpaaGreatDoorWe
import Derived.Test.YtlnidnihhfjcpaaGreatDoorPa
import Derived.Lib.Strings
namespace Go.Proofs.YtlnidnihhfjcpaaGreatDoor
open Go.RowKit

theorem get_list (t : ByteArray) (i : Nat) : t.get! i = t.data.toList.getD i 0 := by
  obtain ⟨⟨l⟩⟩ := t
  simp [ByteArray.get!, List.getD]
  rfl
theorem go_dec (s : ByteArray) (k : Nat) (h : k < s.size) : Lib.decodeGo (s.extract k s.size) = dec (s.data.toList.drop k) := by
  have hsz : (s.extract k s.size).size = s.size - k := by simp
  have hl : (s.extract k s.size).data.toList = s.data.toList.drop k := by
    rw [Lib.extract_data]
    exact List.take_of_length_le (by simp)
  unfold Lib.decodeGo
  rw [if_neg (by omega), Lib.decode_at]
  unfold dec
  rw [get_list, get_list, get_list, get_list, hl, hsz]
  simp

/-- The two tables of UTF-8 lie below block B, as their initialisers lay them. -/
def UTab (B : Nat) (w : World) : Prop := ∀ w', Below B w w' → Lib.Utf8Tabs 0 1 w'
theorem UTab.on {B : Nat} {w w1 : World} (h : UTab B w) (hb : Below B w w1) : UTab B w1 := fun w' h' => h w' (hb.trans h')
theorem UTab.up {B B' : Nat} {w : World} (h : UTab B w) (hB : B ≤ B') : UTab B' w := fun w' hb => h w' (hb.mono hB)

theorem decodeAt (s : ByteArray) (k R K : Nat) (h : k < s.size) (hd : dec (s.data.toList.drop k) = (R, K)) (B : Nat) (w : World) (hU : UTab B w) :
    Calls Tryz.prog 31 #[.string (s.extract k s.size)] w fun e w' => e = .returned (.tuple #[.int .i32 R, .int .i64 K]) ∧ Below w.heap.size w w' :=
  (Tryz.utf8_DecodeRuneInString (s.extract k s.size) w (hU w (Below.refl _ _))).mono fun _ _ ⟨he, hb⟩ => ⟨by rw [he, go_dec s k h, hd], hb⟩

theorem drop_ne {l : List UInt8} {k : Nat} (h : k < l.length) : l.drop k ≠ [] := by
  intro e
  have := congrArg List.length e
  simp at this
  omega
theorem drop_cons (s : ByteArray) (k : Nat) (h : k < s.size) : s.data.toList.drop k = s[k] :: s.data.toList.drop (k + 1) := by
  have h' : k < s.data.toList.length := by simpa using h
  rw [List.drop_eq_getElem_cons h']
  rfl

theorem strCells_ext (s : ByteArray) (a n : Nat) : Lib.strCells (s.extract a (a + n)) = Lib.byteCells ((s.data.toList.drop a).take n) := by
  unfold Lib.strCells Lib.byteCells
  rw [Lib.extract_data, Nat.add_sub_cancel_left]

theorem row_append {w : World} {B : Nat} {v : Value} {l l' : List UInt8} {n : Nat} {xs : List Value} (h : w.ownsRow B 5 1 v (l.length + n) (Lib.byteCells l ++ xs)) (hx : xs = Lib.byteCells l') (hn : n = l'.length) : w.ownsRow B 5 1 v (l ++ l').length (Lib.byteCells (l ++ l')) := by
  subst hx hn
  rw [List.length_append, Lib.byteCells_append]
  exact h

/-- A row of the call's own stands behind a call that turned nothing that was there. -/
theorem later {w w' : World} {B : Nat} {e : TypeId} {z : Nat} {v : Value} {n : Nat} {xs : List Value} (h : w.ownsRow B e z v n xs) (hb : Below w.heap.size w w') : w'.ownsRow B e z v n xs := by
  refine ⟨h.1, ?_⟩
  rcases h.2 with h2 | ⟨g, cap, cur, rfl, hg, hh, r⟩
  · exact .inl h2
  · exact .inr ⟨g, cap, cur, rfl, hg, by rw [hb.block g (lt_of_block hh)]; exact hh, r⟩

set_option maxRecDepth 100000 in
set_option maxHeartbeats 2000000 in
theorem jtrue8 (s : ByteArray) (hs : s.size ≤ 4000) (w : World) (hU : UTab w.heap.size w) :
    Calls Tryz.prog 16 #[.string s] w fun e w' => e = .returned (.string ⟨(tru s.data.toList).toArray⟩) ∧ Below w.heap.size w w' := by
  obtain ⟨i0, hi, hz0, hz1, hz2⟩ := info_parts info5
  have hlen := (tru_length s.data.toList.length s.data.toList (Nat.le_refl _)).2
  have hls : s.data.toList.length = s.size := by simp
  have HU := Lib.hid hU
  clear hU
  go_enter Tryz.func16, Tryz.ntmps16
  go_wp2
  go_loopw [3, 4] (fun o i wr => ∃ (k : Nat) (l : List UInt8), k ≤ s.size ∧ i = .int .i64 k ∧ wr.ownsRow w.heap.size 5 1 o l.length (Lib.byteCells l) ∧ l ++ tru (s.data.toList.drop k) = tru s.data.toList ∧ Below w.heap.size w wr) (fun _ i _ => s.size - (intOf i).toNat)
  case atStart => exact ⟨0, [], Nat.zero_le _, rfl, World.ownsRow_nil _ _ _ _, by simp, Below.refl _ _⟩
  case round =>
    obtain ⟨k, l, hk, rfl, ho, he, hb⟩ := hrel
    have hll : l.length ≤ 3 * s.size := by
      have := congrArg List.length he
      simp only [List.length_append] at this
      omega
    by_cases hlt : k < s.size
    · obtain ⟨R, hR⟩ : ∃ R, (dec (s.data.toList.drop k)).1 = R := ⟨_, rfl⟩
      obtain ⟨K, hK⟩ : ∃ K, (dec (s.data.toList.drop k)).2 = K := ⟨_, rfl⟩
      have hd : dec (s.data.toList.drop k) = (R, K) := by rw [← hR, ← hK]
      have hw := dec_width (drop_ne (l := s.data.toList) (k := k) (by omega))
      rw [hd, List.length_drop, hls] at hw
      simp only at hw
      obtain ⟨hw1, hw2, hw3⟩ := hw
      have hcons := drop_cons s k hlt
      have hbs := hb.size
      clear hR hK
      by_cases hr : R = 65533 ∧ K = 1
      · -- a byte that is replaced
        obtain ⟨rfl, rfl⟩ := hr
        have hnw : ¬ Whole (s[k] :: s.data.toList.drop (k + 1)) := fun h => h (by rw [← hcons, hd]; exact ⟨rfl, rfl⟩)
        have het : tru (s.data.toList.drop k) = [239, 191, 189] ++ tru (s.data.toList.drop (k + 1)) := by rw [hcons]; exact tru_broken hnw
        have HE := Lib.hid (show (l ++ [239, 191, 189]) ++ tru (s.data.toList.drop (k + 1)) = tru s.data.toList by rw [← he, het, List.append_assoc])
        have HD := Lib.hid hd
        have HO := Lib.hid ho
        have HB := Lib.hid hb
        clear he hd ho hb hcons hnw het
        go_wp2_with fail
        refine (decodeAt s k 65533 1 hlt HD.out w.heap.size wr (HU.out.on HB.out)).mono ?_
        rintro e w1 ⟨rfl, hb1⟩
        have ho1 := later HO.out hb1
        have H1 := Lib.hid ho1
        have s1 := hb1.size
        have B1 := Lib.hid (HB.out.trans (hb1.mono hbs))
        clear ho1 hb1
        go_wp2_with (at_builtin; refine Lib.wpList_append_own_string _ rfl _ _ 35 9 rfl w.heap.size 5 i0 Tryz.underlying35 Tryz.underlying9 hi hz0 hz1 hz2 _ _ _ rfl H1.out ⟨#[239, 191, 189]⟩ rfl ?c1 ?c2 ?c3 ?c4)
        case c1 => unfold maxLen; simp [ByteArray.size]; omega
        case c2 => simp [ByteArray.size]; omega
        case c3 => omega
        case c4 =>
          intro v' w2 ho2 hg _
          have R1 := row_append ho2 (l' := [239, 191, 189]) rfl rfl
          have R2 := B1.out.grown hg (by omega) (fun k hk => (H1.out.lt k hk).1)
          have G1 := Lib.hid R1
          have G2 := Lib.hid R2
          clear R1 R2 ho2 hg
          go_wp2
          go_roundw
          case rel => exact ⟨k + 1, _, by omega, by go_num, G1.out, HE.out, G2.out⟩
          case measure => simp [intOf]; omega
      · -- a whole character
        have hwh : Whole (s[k] :: s.data.toList.drop (k + 1)) := by
          intro h
          rw [← hcons, hd] at h
          exact hr h
        have het : tru (s.data.toList.drop k) = (s.data.toList.drop k).take K ++ tru (s.data.toList.drop (k + K)) := by
          rw [hcons, tru_whole hwh, ← hcons, hd, List.drop_drop]
        have HE := Lib.hid (show (l ++ (s.data.toList.drop k).take K) ++ tru (s.data.toList.drop (k + K)) = tru s.data.toList by rw [← he, het, List.append_assoc])
        have hll2 : l.length + K ≤ 3 * s.size := by
          have := congrArg List.length HE.out
          simp only [List.length_append, List.length_take, List.length_drop] at this
          omega
        have HD := Lib.hid hd
        have HO := Lib.hid ho
        have HB := Lib.hid hb
        have hkind : ((R : Int) == 65533) = false ∨ (((R : Int) == 65533) = true ∧ ¬ (K : Int) < 2) := by
          by_cases hR : R = 65533
          · right
            exact ⟨by rw [beq_iff_eq]; omega, by omega⟩
          · left
            rw [beq_eq_false_iff_ne]; omega
        have HX := Lib.hid (show (s.extract k (k + K)).size = K by rw [ByteArray.size_extract]; omega)
        clear he hd ho hb hcons hwh het hr
        rcases hkind with hb1 | ⟨hb1, hb2⟩
        all_goals
          go_wp2_with fail
          refine (decodeAt s k R K hlt HD.out w.heap.size wr (HU.out.on HB.out)).mono ?_
          rintro e w1 ⟨rfl, hbb1⟩
          have ho1 := later HO.out hbb1
          have H1 := Lib.hid ho1
          have s1 := hbb1.size
          have B1 := Lib.hid (HB.out.trans (hbb1.mono hbs))
          clear ho1 hbb1
          go_wp2_with (at_builtin; refine Lib.wpList_append_own_string _ rfl _ _ 35 9 rfl w.heap.size 5 i0 Tryz.underlying35 Tryz.underlying9 hi hz0 hz1 hz2 _ _ _ rfl H1.out (s.extract k (k + K)) rfl ?_ ?_ ?_ ?_)
          · rw [HX.out]; unfold maxLen; omega
          · rw [HX.out]; omega
          · omega
          · intro v' w2 ho2 hg _
            have R1 := row_append ho2 (l' := (s.data.toList.drop k).take K) (strCells_ext s k K) (by simp; omega)
            have R2 := B1.out.grown hg (by omega) (fun k hk => (H1.out.lt k hk).1)
            have G1 := Lib.hid R1
            have G2 := Lib.hid R2
            clear R1 R2 ho2 hg
            go_wp2
            go_roundw
            case rel => exact ⟨k + K, _, by omega, by go_num, G1.out, HE.out, G2.out⟩
            case measure => simp [intOf]; omega
    · obtain rfl : k = s.size := by omega
      have e0 : l = tru s.data.toList := by
        rw [List.drop_of_length_le (by omega), tru_nil, List.append_nil] at he
        exact he
      subst e0
      have hcv := conv_row ho
      have HB := Lib.hid hb
      clear ho he hb hlen hll
      go_wp2
      go_ret
      exact ⟨rfl, HB.out⟩
end Go.Proofs.YtlnidnihhfjcpaaGreatDoor
