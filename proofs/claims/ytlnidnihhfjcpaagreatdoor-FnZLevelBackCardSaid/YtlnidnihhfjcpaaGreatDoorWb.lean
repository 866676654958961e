/- The reference's ZUpper: a text with great letters of ASCII in place of small ones. For every text of at most 2^47 bytes. -/
import Derived.Test.YtlnidnihhfjcpaaGreatDoorWa
import Derived.Lib.SlBytesRow
import Derived.Lib.Hide
namespace Go.Proofs.YtlnidnihhfjcpaaGreatDoor
open Go.RowKit

def upc (c : UInt8) : UInt8 := if 97 ≤ c ∧ c ≤ 122 then c - 32 else c
def upB (s : ByteArray) : ByteArray := ⟨s.data.map upc⟩
theorem upB_size (s : ByteArray) : (upB s).size = s.size := Array.size_map
theorem upB_get (s : ByteArray) (j : Nat) (h : j < s.size) : (upB s)[j]'(by rw [upB_size]; exact h) = upc s[j] := by
  show (s.data.map upc)[j]'(by simpa using h) = _
  rw [Array.getElem_map]
  rfl
theorem upc_yes {c : UInt8} (h0 : 97 ≤ (c.toNat : Int)) (h1 : (c.toNat : Int) ≤ 122) : ((upc c).toNat : Int) = (c.toNat : Int) - 32 := by
  have a : 97 ≤ c := by rw [UInt8.le_iff_toNat_le]; simp; omega
  have b : c ≤ 122 := by rw [UInt8.le_iff_toNat_le]; simp; omega
  unfold upc
  rw [if_pos ⟨a, b⟩, UInt8.toNat_sub_of_le _ _ (by rw [UInt8.le_iff_toNat_le]; simp; omega)]
  simp; omega
theorem upc_no {c : UInt8} (h : (c.toNat : Int) < 97 ∨ 122 < (c.toNat : Int)) : upc c = c := by
  unfold upc
  rw [if_neg]
  rintro ⟨a, b⟩
  rw [UInt8.le_iff_toNat_le] at a b
  simp at a b
  omega

/-- Behind k rounds: the first k bytes are turned. -/
def UpTo (s : ByteArray) (g k : Nat) (w : World) : Prop := ∀ j (h : j < s.size), w.cell? ⟨g, j, none⟩ = some (.int .u8 ((if j < k then upc s[j] else s[j]).toNat : Int)) ∧ w.frozen? ⟨g, j, none⟩ = false
theorem UpTo.next_no {s : ByteArray} {g k : Nat} {w : World} (h : UpTo s g k w) (hk : k < s.size) (hu : upc s[k] = s[k]) : UpTo s g (k + 1) w := by
  intro j hj
  refine ⟨?_, (h j hj).2⟩
  rw [(h j hj).1]
  by_cases e : j = k
  · subst e; rw [if_neg (by omega), if_pos (by omega), hu]
  · by_cases e2 : j < k
    · rw [if_pos e2, if_pos (by omega)]
    · rw [if_neg e2, if_neg (by omega)]
theorem UpTo.next_yes {s : ByteArray} {g k : Nat} {w : World} (h : UpTo s g k w) (hk : k < s.size) (c : Int) (hu : ((upc s[k]).toNat : Int) = c) : UpTo s g (k + 1) (w.setCell ⟨g, k, none⟩ (.int .u8 c)) := by
  intro j hj
  refine ⟨?_, by rw [World.frozen?_setCell]; exact (h j hj).2⟩
  by_cases e : j = k
  · subst e
    rw [if_pos (by omega), hu]
    exact World.cell?_setCell_same _ _ _ (h j hj).1
  · rw [World.cell?_setCell_other _ _ _ _ (by intro h'; injection h'; omega), (h j hj).1]
    by_cases e2 : j < k
    · rw [if_pos e2, if_pos (by omega)]
    · rw [if_neg e2, if_neg (by omega)]
theorem UpTo.all {s : ByteArray} {g : Nat} {w : World} (h : UpTo s g s.size w) : Lib.Bytes w g 0 (upB s) := by
  intro i hi
  rw [upB_size] at hi
  rw [Nat.zero_add, (h i hi).1, if_pos hi, upB_get s i hi]
theorem UpTo.drew {s : ByteArray} {g k : Nat} {w : World} (h : UpTo s g k w) : UpTo s g k w.drew := fun j hj => by
  have := h j hj
  simpa [go_sem] using this

theorem upTo_zero (s : ByteArray) (w : World) (cap : Nat) : UpTo s w.heap.size 0 ((w.alloc (.cells (bytesRow s cap) 5 ((bytesRow s cap).size, (bytesRow s cap).size + 1))).drew) := by
  refine UpTo.drew fun j hj => ⟨?_, ?_⟩
  · rw [World.cell?_alloc_mark, if_neg (by omega)]
    exact bytesRow_at s cap j hj
  · rw [World.frozen?_alloc_mark]
    have : s.size ≤ (bytesRow s cap).size := by unfold bytesRow; rw [Array.size_append, Array.size_map]; exact Nat.le_add_right _ _
    simp; omega

set_option maxHeartbeats 1000000 in
theorem zupper (s : ByteArray) (hs : s.size ≤ 140737488351232) (w : World) :
    Calls Tryz.prog 11 #[.string s] w fun e w' => e = .returned (.string (upB s)) ∧ Below w.heap.size w w' := by
  have hcv := fun w s => run_bytes_of_string (P := Tryz.prog) w 9 35 5 s Tryz.underlying9 Tryz.underlying35 Tryz.underlying5
  go_enter Tryz.func11, Tryz.ntmps11
  go_wp2
  generalize grownCap w s.size 0 5 = cap
  go_loopw [4] (fun i wr => ∃ k : Nat, k ≤ s.size ∧ i = .int .i64 k ∧ UpTo s w.heap.size k wr ∧ Below w.heap.size w wr) (fun i _ => s.size - (intOf i).toNat)
  case atStart => exact ⟨0, Nat.zero_le _, rfl, upTo_zero s w cap, by go_grown⟩
  case round =>
    obtain ⟨k, hk, rfl, hu, hb⟩ := hrel
    by_cases hlt : k < s.size
    · obtain ⟨c, hcd⟩ : ∃ c : Int, c = s[k].toNat := ⟨_, rfl⟩
      have hc0 : 0 ≤ c := by omega
      have hc1 : c ≤ 255 := by have := s[k].toNat_lt; omega
      have hc : wr.cell? ⟨w.heap.size, k, none⟩ = some (.int .u8 c) := by
        have := (hu k hlt).1
        rwa [if_neg (by omega), ← hcd] at this
      have hf : wr.frozen? ⟨w.heap.size, k, none⟩ = false := (hu k hlt).2
      have HU := Lib.hid hu
      have HC := Lib.hid hcd
      clear hu hcd
      by_cases h97 : 97 ≤ c
      · by_cases h122 : c ≤ 122
        · go_wp2
          go_roundw
          case rel => exact ⟨k + 1, by omega, by go_num, HU.out.next_yes hlt (c - 32) (by have := HC.out; rw [this]; exact upc_yes (by omega) (by omega)), hb.setCell (Nat.le_refl _) _⟩
          case measure => simp [intOf]; omega
        · go_wp2
          go_roundw
          case rel => exact ⟨k + 1, by omega, by go_num, HU.out.next_no hlt (upc_no (by have := HC.out; omega)), hb⟩
          case measure => simp [intOf]; omega
      · go_wp2
        go_roundw
        case rel => exact ⟨k + 1, by omega, by go_num, HU.out.next_no hlt (upc_no (by have := HC.out; omega)), hb⟩
        case measure => simp [intOf]; omega
    · obtain rfl : k = s.size := by omega
      have hst : ∀ cap, (convert 35 9 (.slice (some ⟨w.heap.size, 0, none⟩) s.size cap)).run Tryz.prog wr = .ok (.string (upB s)) wr := fun cap => by
        have := Lib.run_convert_whole (P := Tryz.prog) wr 35 5 9 Tryz.underlying35 Tryz.underlying5 Tryz.underlying9 w.heap.size 0 (upB s) hu.all cap
        rwa [upB_size] at this
      clear hu
      go_wp2
      go_ret
      exact ⟨rfl, hb⟩
end Go.Proofs.YtlnidnihhfjcpaaGreatDoor
