/- The contracts of zap's reading of levels: unmarshalText, zzToLower at texts of ASCII, UnmarshalText, ParseLevel; of the thin package's ZLevelParse. -/
import Derived.Test.YtlnidnihhfjcpaaGreatDoorWe
import Derived.Test.YtlnidnihhfjcpaaGreatDoorPb
import Derived.Lib.OthersKept
namespace Go.Proofs.YtlnidnihhfjcpaaGreatDoor
open Go.RowKit

theorem bytes_eq {a b : ByteArray} (h : a.data.toList = b.data.toList) : a = b := by
  apply ByteArray.ext
  exact Array.toList_inj.1 h
theorem of_list {s : ByteArray} {l : List UInt8} (h : s.data.toList = l) : s = ⟨l.toArray⟩ := bytes_eq (by simpa using h)

/-- The slice v holds the bytes of s, now and behind whatever turns nothing that is there now. -/
def TextAt (v : Value) (s : ByteArray) (w : World) : Prop := ∀ w', Below w.heap.size w w' → (convert 35 9 v).run Tryz.prog w' = .ok (.string s) w'
theorem TextAt.here {v : Value} {s : ByteArray} {w : World} (h : TextAt v s w) : (convert 35 9 v).run Tryz.prog w = .ok (.string s) w := h w (Below.refl _ _)
theorem TextAt.on {v : Value} {s : ByteArray} {w w1 : World} (h : TextAt v s w) (hb : Below w.heap.size w w1) : TextAt v s w1 := fun w' h' => h w' (hb.trans (h'.mono hb.size))

theorem text_of_row {w : World} {B : Nat} {v : Value} {l : List UInt8} (h : w.ownsRow B 5 1 v l.length (Lib.byteCells l)) : TextAt v ⟨l.toArray⟩ w := by
  intro w' hb
  refine conv_row (B := B) ?_
  refine ⟨h.1, ?_⟩
  rcases h.2 with h2 | ⟨g, cap, cur, rfl, hg, hh, r⟩
  · exact .inl h2
  · exact .inr ⟨g, cap, cur, rfl, hg, by rw [hb.block g (lt_of_block hh)]; exact hh, r⟩

theorem text_of_row' {w : World} {B n : Nat} {v : Value} {l : List UInt8} (hn : n = l.length) (h : w.ownsRow B 5 1 v n (Lib.byteCells l)) : TextAt v ⟨l.toArray⟩ w := by
  subst hn
  exact text_of_row h

theorem text_of_bytes (s : ByteArray) (w : World) (cap c : Nat) : TextAt (.slice (some ⟨w.heap.size, 0, none⟩) s.size c) s ((w.alloc (.cells (bytesRow s cap) 5 ((bytesRow s cap).size, (bytesRow s cap).size + 1))).drew) := by
  intro w' hb
  have hby : Lib.Bytes w' w.heap.size 0 s := by
    intro i hi
    rw [Nat.zero_add, hb.cell (by show w.heap.size < (w.heap.push _).size; simp)]
    show (w.alloc _).cell? _ = _
    rw [World.cell?_alloc_mark]
    exact bytesRow_at s cap i hi
  have := Lib.run_convert_whole (P := Tryz.prog) w' 35 5 9 Tryz.underlying35 Tryz.underlying5 Tryz.underlying9 w.heap.size 0 s hby c
  exact this

theorem look_cases {l : List UInt8} {n : Int} (h : look l = some n) : (l = nDebug ∧ n = -1) ∨ (l = nInfo ∧ n = 0) ∨ (l = [] ∧ n = 0) ∨ (l = nWarn ∧ n = 1) ∨ (l = nWarning ∧ n = 1) ∨ (l = nError ∧ n = 2) ∨ (l = nDpanic ∧ n = 3) ∨ (l = nPanic ∧ n = 4) ∨ (l = nFatal ∧ n = 5) := by
  unfold look at h
  by_cases h1 : l = nDebug
  · rw [if_pos h1] at h; cases h; exact .inl ⟨h1, rfl⟩
  rw [if_neg h1] at h
  by_cases h2 : l = nInfo
  · rw [if_pos h2] at h; cases h; exact .inr (.inl ⟨h2, rfl⟩)
  rw [if_neg h2] at h
  by_cases h3 : l = []
  · rw [if_pos h3] at h; cases h; exact .inr (.inr (.inl ⟨h3, rfl⟩))
  rw [if_neg h3] at h
  by_cases h4 : l = nWarn
  · rw [if_pos h4] at h; cases h; exact .inr (.inr (.inr (.inl ⟨h4, rfl⟩)))
  rw [if_neg h4] at h
  by_cases h5 : l = nWarning
  · rw [if_pos h5] at h; cases h; exact .inr (.inr (.inr (.inr (.inl ⟨h5, rfl⟩))))
  rw [if_neg h5] at h
  by_cases h6 : l = nError
  · rw [if_pos h6] at h; cases h; exact .inr (.inr (.inr (.inr (.inr (.inl ⟨h6, rfl⟩)))))
  rw [if_neg h6] at h
  by_cases h7 : l = nDpanic
  · rw [if_pos h7] at h; cases h; exact .inr (.inr (.inr (.inr (.inr (.inr (.inl ⟨h7, rfl⟩))))))
  rw [if_neg h7] at h
  by_cases h8 : l = nPanic
  · rw [if_pos h8] at h; cases h; exact .inr (.inr (.inr (.inr (.inr (.inr (.inr (.inl ⟨h8, rfl⟩)))))))
  rw [if_neg h8] at h
  by_cases h9 : l = nFatal
  · rw [if_pos h9] at h; cases h; exact .inr (.inr (.inr (.inr (.inr (.inr (.inr (.inr ⟨h9, rfl⟩)))))))
  rw [if_neg h9] at h
  cases h

set_option maxHeartbeats 2000000 in
theorem unm_yes (lb : Nat) (ao : Option Addr) (m c : Nat) (s : ByteArray) (n x : Int) (w : World) (hl : w.heap[lb]? = some (.cells #[.int .i8 x] 48 (0, 0))) (hv : TextAt (.slice ao m c) s w) (h : look s.data.toList = some n) :
    Calls Tryz.prog 94 #[.pointer (some ⟨lb, 0, none⟩), .slice ao m c] w fun e w' => e = .returned (.bool true) ∧ w.setCell ⟨lb, 0, none⟩ (.int .i8 n) = w' := by
  have hc := cell_of_one hl
  have hf := free_of_one hl
  have hcv := hv.here
  clear hl hv
  rcases look_cases h with ⟨e, rfl⟩ | ⟨e, rfl⟩ | ⟨e, rfl⟩ | ⟨e, rfl⟩ | ⟨e, rfl⟩ | ⟨e, rfl⟩ | ⟨e, rfl⟩ | ⟨e, rfl⟩ | ⟨e, rfl⟩
  all_goals
    obtain rfl := of_list e
    clear e h
    try simp only [nDebug, nInfo, nWarn, nWarning, nError, nDpanic, nPanic, nFatal] at hcv
    go_enter Tryz.func94, Tryz.ntmps94
    go_wp2
    go_ret
    exact ⟨rfl, rfl⟩

set_option maxHeartbeats 2000000 in
theorem unm_no (lb : Nat) (ao : Option Addr) (m c : Nat) (s : ByteArray) (w : World) (hv : TextAt (.slice ao m c) s w) (h : look s.data.toList = none) :
    Calls Tryz.prog 94 #[.pointer (some ⟨lb, 0, none⟩), .slice ao m c] w fun e w' => e = .returned (.bool false) ∧ w = w' := by
  have hcv := hv.here
  have key : ∀ l : List UInt8, (look l).isSome = true → (s.toList == l) = false := fun l hl => by
    rw [ByteArray.toList_eq, beq_eq_false_iff_ne]
    intro e
    rw [← e, h] at hl
    cases hl
  have k1 := key [100, 101, 98, 117, 103] (by decide)
  have k2 := key [105, 110, 102, 111] (by decide)
  have k3 : s.toList.isEmpty = false := by
    have := key [] (by decide)
    cases e : s.toList with
    | nil => rw [e] at this; cases this
    | cons _ _ => rfl
  have k4 := key [119, 97, 114, 110] (by decide)
  have k5 := key [119, 97, 114, 110, 105, 110, 103] (by decide)
  have k6 := key [101, 114, 114, 111, 114] (by decide)
  have k7 := key [100, 112, 97, 110, 105, 99] (by decide)
  have k8 := key [112, 97, 110, 105, 99] (by decide)
  have k9 := key [102, 97, 116, 97, 108] (by decide)
  clear hv h key
  go_enter Tryz.func94, Tryz.ntmps94
  go_wp2
  go_ret
  exact ⟨rfl, rfl⟩

theorem enc_ascii {r : Int} {x : UInt8} (h0 : 0 ≤ r) (h1 : r < 128) (hx : (x.toNat : Int) = r) : Utf8.encode r = ⟨#[x]⟩ := by
  have hv : Utf8.valid r = true := by
    unfold Utf8.valid
    simp
    omega
  unfold Utf8.encode
  simp only [hv, if_true]
  rw [if_pos (by omega)]
  have : UInt8.ofNat r.toNat = x := by
    apply UInt8.toNat_inj.1
    rw [UInt8.toNat_ofNat']
    omega
  rw [this]
theorem lowq_yes {c : UInt8} (h0 : 65 ≤ (c.toNat : Int)) (h1 : (c.toNat : Int) ≤ 90) : ((lowq c).toNat : Int) = (c.toNat : Int) + 32 := by
  have a : 65 ≤ c ∧ c ≤ 90 := ⟨by rw [UInt8.le_iff_toNat_le]; simp; omega, by rw [UInt8.le_iff_toNat_le]; simp; omega⟩
  unfold lowq
  rw [if_pos a, UInt8.toNat_add]
  have : (32 : UInt8).toNat = 32 := rfl
  omega
theorem lowq_no {c : UInt8} (h : (c.toNat : Int) < 65 ∨ 90 < (c.toNat : Int)) : lowq c = c := by
  unfold lowq
  rw [if_neg]
  rintro ⟨a, b⟩
  rw [UInt8.le_iff_toNat_le] at a b
  simp at a b
  omega
theorem low_snoc (s : ByteArray) (k : Nat) (h : k < s.size) : ((s.data.toList.map lowq).take (k + 1)) = (s.data.toList.map lowq).take k ++ [lowq s[k]] := by
  have h' : k < (s.data.toList.map lowq).length := by simpa using h
  rw [List.take_add_one, List.getElem?_eq_getElem h', List.getElem_map]
  rfl

/-- What the loop keeps. -/
def LowInv (s : ByteArray) (B k pos : Nat) (o : Value) (wr : World) : Prop := wr.heap[k]? = some (.stringIter s pos) ∧ wr.ownsRow B 5 1 o pos (Lib.byteCells ((s.data.toList.map lowq).take pos))

theorem LowInv.iter {s : ByteArray} {B k pos : Nat} {o : Value} {wr : World} (h : LowInv s B k pos o wr) (p' : Nat) : (wr.iterAt k s p').heap[k]? = some (.stringIter s p') ∧ (wr.iterAt k s p').ownsRow B 5 1 o pos (Lib.byteCells ((s.data.toList.map lowq).take pos)) := by
  refine ⟨Lib.iterAt_heap wr k s pos p' h.1, h.2.1, ?_⟩
  rcases h.2.2 with h2 | ⟨g, cap, cur, rfl, hg, hh, r⟩
  · exact .inl h2
  · refine .inr ⟨g, cap, cur, rfl, hg, ?_, r⟩
    rw [Lib.iterAt_other]
    · exact hh
    · rintro rfl
      rw [h.1] at hh
      cases hh

theorem kept_iter {w w1 : World} {B k pos n : Nat} {s : ByteArray} {v : Value} {xs : List Value} (hk : w.heap[k]? = some (.stringIter s pos)) (ho : w.ownsRow B 5 1 v n xs) (hg : w.grownBy w1 v.ownBlock) : w1.heap[k]? = some (.stringIter s pos) := by
  rw [hg.block k (lt_of_block hk) (fun e => by
    obtain ⟨c, fz, h⟩ := row_is ho k e.symm
    rw [hk] at h
    cases h)]
  exact hk

set_option maxRecDepth 100000 in
set_option maxHeartbeats 4000000 in
theorem lower (ao : Option Addr) (m c : Nat) (s : ByteArray) (hs : s.size ≤ 1000) (ha : ∀ i (h : i < s.size), (s[i]'h).toNat < 128) (w : World) (hv : TextAt (.slice ao m c) s w) :
    Calls Tryz.prog 95 #[.slice ao m c] w fun e w' => (∃ ao' m' c', e = .returned (.slice ao' m' c') ∧ TextAt (.slice ao' m' c') ⟨(s.data.toList.map lowq).toArray⟩ w') ∧ Below w.heap.size w w' := by
  obtain ⟨i0, hi, hz0, hz1, hz2⟩ := info_parts info5
  have hcv : (convert 35 9 (.slice ao m c)).run Tryz.prog (w.alloc (.cells #[] 5)) = .ok (.string s) (w.alloc (.cells #[] 5)) := hv _ (by go_grown)
  have hsz : s.data.toList.length = s.size := by simp
  have HA := Lib.hid ha
  have hI0 : LowInv s w.heap.size (w.heap.size + 1) 0 (.slice (some ⟨w.heap.size, 0, none⟩) 0 0) ((w.alloc (.cells #[] 5)).iter s 0) := by
    refine ⟨?_, ?_⟩
    · have h5 := World.iter_heap (w.alloc (.cells #[] 5)) s 0
      simpa using h5
    · exact (World.ownsRow_made w #[] 0 (Nat.le_refl _) (by decide) rfl).alloc _
  have hb0 : Below w.heap.size w ((w.alloc (.cells #[] 5)).iter s 0) := ((Below.refl _ w).alloc (Nat.le_refl _) _).alloc (by simp) _
  have I0 := Lib.hid hI0
  have B0 := Lib.hid hb0
  clear hv ha hI0 hb0
  go_enter Tryz.func95, Tryz.ntmps95
  go_wp2
  go_loopw [3] (fun o wr => ∃ pos : Nat, pos ≤ s.size ∧ LowInv s w.heap.size (w.heap.size + 1) pos o wr ∧ Below w.heap.size w wr) (fun _ wr => s.size - wr.iterPos (w.heap.size + 1))
  case atStart => exact ⟨0, Nat.zero_le _, I0.out, B0.out⟩
  case round =>
    obtain ⟨pos, hp, hinv, hb⟩ := hrel
    clear hcv
    have hmu : wr.iterPos (w.heap.size + 1) = pos := by simp [World.iterPos, hinv.1]
    have hbs := hb.size
    have hit := hinv.1
    by_cases hlt : pos < s.size
    · have h128 := HA.out pos hlt
      obtain ⟨x, hcd⟩ : ∃ x : Int, x = (s[pos].toNat : Int) := ⟨_, rfl⟩
      have hc0 : 0 ≤ x := by omega
      have hc1 : x < 128 := by omega
      have hnext : ∀ ty, (Instr.next (.pointer (some ⟨w.heap.size + 1, 0, none⟩)) true ty).run Tryz.prog wr = .ok (.tuple #[.bool true, .int .i64 pos, .int .i32 x]) (wr.iterAt (w.heap.size + 1) s (pos + 1)) := fun ty => by
        rw [hcd]; exact Lib.run_next_ascii_at wr (w.heap.size + 1) s pos ty hit hlt h128
      have HI := Lib.hid (hinv.iter (pos + 1))
      have hnx : Below w.heap.size w (wr.iterAt (w.heap.size + 1) s (pos + 1)) := Lib.below_iterAt hb (by omega) s (pos + 1)
      have hns := hnx.size
      have HB := Lib.hid hnx
      have HM := Lib.hid hmu
      have HS := Lib.hid (low_snoc s pos hlt)
      have HC := Lib.hid hcd
      clear hinv hb hnx hmu hit hcd h128
      generalize wr.iterAt (w.heap.size + 1) s (pos + 1) = W1 at hnext HI HB hns
      by_cases hA : 65 ≤ x ∧ x ≤ 90
      · obtain ⟨hA1, hA2⟩ := hA
        have HE := Lib.hid (enc_ascii (r := x + 32) (x := lowq s[pos]) (by omega) (by omega) (by have := HC.out; rw [this] at hA1 hA2 ⊢; exact lowq_yes hA1 hA2))
        go_wp2_with (at_builtin; refine Lib.wpList_append_own_string _ rfl _ _ 35 9 rfl w.heap.size 5 i0 Tryz.underlying35 Tryz.underlying9 hi hz0 hz1 hz2 _ _ _ rfl HI.out.2 _ rfl ?_ ?_ ?_ ?_)
        · rw [HE.out]; unfold maxLen; show pos + 1 ≤ _; omega
        · rw [HE.out]; show pos + 1 ≤ _; omega
        · omega
        · rw [HE.out]
          intro v' w2 ho2 hg _
          have R1 : LowInv s w.heap.size (w.heap.size + 1) (pos + 1) v' w2 := ⟨kept_iter HI.out.1 HI.out.2 hg, by rw [HS.out, Lib.byteCells_append]; exact ho2⟩
          have R2 := HB.out.grown hg (by omega) (fun k hk => (HI.out.2.lt k hk).1)
          have hmu2 : w2.iterPos (w.heap.size + 1) = pos + 1 := by simp [World.iterPos, R1.1]
          have G1 := Lib.hid R1
          have G2 := Lib.hid R2
          have G3 := Lib.hid hmu2
          clear R1 R2 ho2 hg hmu2
          go_wp2
          go_roundw
          case rel => exact ⟨pos + 1, by omega, G1.out, G2.out⟩
          case measure => rw [HM.out, G3.out]; omega
      · have HE := Lib.hid (enc_ascii (r := x) (x := lowq s[pos]) (by omega) (by omega) (by have := HC.out; rw [lowq_no (by omega)]; exact this.symm))
        have hk1 : (x == 8490) = false := by rw [beq_eq_false_iff_ne]; omega
        have hk2 : (x == 304) = false := by rw [beq_eq_false_iff_ne]; omega
        have hcs : (¬ 65 ≤ x) ∨ (65 ≤ x ∧ ¬ x ≤ 90) := by omega
        clear hA
        rcases hcs with hA1 | ⟨hA1, hA2⟩
        all_goals
          go_wp2_with (at_builtin; refine Lib.wpList_append_own_string _ rfl _ _ 35 9 rfl w.heap.size 5 i0 Tryz.underlying35 Tryz.underlying9 hi hz0 hz1 hz2 _ _ _ rfl HI.out.2 _ rfl ?_ ?_ ?_ ?_)
          · rw [HE.out]; unfold maxLen; show pos + 1 ≤ _; omega
          · rw [HE.out]; show pos + 1 ≤ _; omega
          · rw [HE.out]
            intro v' w2 ho2 hg _
            have R1 : LowInv s w.heap.size (w.heap.size + 1) (pos + 1) v' w2 := ⟨kept_iter HI.out.1 HI.out.2 hg, by rw [HS.out, Lib.byteCells_append]; exact ho2⟩
            have R2 := HB.out.grown hg (by omega) (fun k hk => (HI.out.2.lt k hk).1)
            have hmu2 : w2.iterPos (w.heap.size + 1) = pos + 1 := by simp [World.iterPos, R1.1]
            have G1 := Lib.hid R1
            have G2 := Lib.hid R2
            have G3 := Lib.hid hmu2
            clear R1 R2 ho2 hg hmu2
            go_wp2
            go_roundw
            case rel => exact ⟨pos + 1, by omega, G1.out, G2.out⟩
            case measure => rw [HM.out, G3.out]; omega
    · obtain rfl : pos = s.size := by omega
      have hnext : ∀ ty, (Instr.next (.pointer (some ⟨w.heap.size + 1, 0, none⟩)) true ty).run Tryz.prog wr = .ok (.tuple #[.bool false]) wr := fun ty => Lib.run_next_end_at wr (w.heap.size + 1) s s.size ty hit hlt
      have ho := hinv.2
      rw [List.take_of_length_le (by simp)] at ho
      have HT := Lib.hid (text_of_row' (by rw [List.length_map, hsz]) ho)
      obtain ⟨ao', cp', hv'⟩ := row_shape ho
      have HB := Lib.hid hb
      clear hinv hit ho hb
      subst hv'
      go_wp2
      go_ret
      exact ⟨⟨_, _, _, rfl, HT.out⟩, HB.out⟩
end Go.Proofs.YtlnidnihhfjcpaaGreatDoor
