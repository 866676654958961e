/- The contract of zerolog's appendFloat at a number of 64 bits. No conditions beyond each theorem's own. -/
import Derived.Test.YtkkipddgkfidmaaGreatDoorYp
namespace Go.Proofs.YtkkipddgkfidmaaGreatDoor
open Go.RowKit

/-- A row of the call's own, its block. -/
theorem Out.block {B : Nat} {v : Value} {l : List UInt8} {w : World} (h : Out B v l w) (h0 : 0 < l.length) : ∃ g cap cur, v = .slice (some ⟨g, 0, none⟩) l.length cap ∧ B ≤ g ∧ w.heap[g]? = some (.cells cur 5 (0, 0)) ∧ l.length ≤ cap ∧ cap ≤ maxLen ∧ cur.size = cap ∧ cur.toList.take l.length = bcells l := by
  rcases h.2 with ⟨_, hn⟩ | ⟨g, cap, cur, h1, h2, h3, h4, h5, h6, h7⟩
  · omega
  · exact ⟨g, cap, cur, h1, h2, h3, h4, h5, by simpa using h6, by simpa using h7⟩

theorem cell_of_take {w : World} {g : Nat} {cur : Array Value} {l : List UInt8} (hg : w.heap[g]? = some (.cells cur 5 (0, 0))) (h : cur.toList.take l.length = bcells l) (j : Nat) (hj : j < l.length) : w.cell? ⟨g, j, none⟩ = some (.int .u8 ((l[j]'hj).toNat : Int)) := by
  rw [cell_at hg, ← Array.getElem?_toList]
  have : (cur.toList.take l.length)[j]? = (bcells l)[j]? := by rw [h]
  rw [List.getElem?_take, if_pos hj] at this
  rw [this]
  simp [bcells, hj]

/-- The cleaned row. -/
theorem clean_out {B : Nat} {l : List UInt8} {w : World} {g cap : Nat} {cur : Array Value} (hB : B ≤ g) (hg : w.heap[g]? = some (.cells cur 5 (0, 0))) (hc : l.length ≤ cap) (hm : cap ≤ maxLen) (hs : cur.size = cap) (ht : cur.toList.take l.length = bcells l) (i : Nat) (hi : l.length = i + 4) :
    Out B (.slice (some ⟨g, 0, none⟩) (i + 3) cap) (l.take i ++ [l[i]'(by omega), l[i + 1]'(by omega), l[i + 3]'(by omega)]) (w.setCell ⟨g, i + 2, none⟩ (.int .u8 ((l[i + 3]'(by omega)).toNat : Int))) := by
  have hlen : (l.take i ++ [l[i]'(by omega), l[i + 1]'(by omega), l[i + 3]'(by omega)]).length = i + 3 := by simp; omega
  refine ⟨by rw [bcells_length, Nat.mul_one], .inr ⟨g, cap, cur.setIfInBounds (i + 2) (.int .u8 ((l[i + 3]'(by omega)).toNat : Int)), by rw [hlen], hB, setCell_block hg (i + 2) _, by omega, hm, by simpa using hs, ?_⟩⟩
  rw [hlen, Nat.mul_one]
  apply List.ext_getElem?
  intro j
  rw [List.getElem?_take]
  by_cases hj : j < i + 3
  · rw [if_pos hj]
    have h1 : (cur.toList.take l.length)[j]? = (bcells l)[j]? := by rw [ht]
    rw [List.getElem?_take, if_pos (by omega)] at h1
    rw [Array.getElem?_toList, Array.getElem?_setIfInBounds]
    by_cases e : i + 2 = j
    · subst e
      rw [if_pos rfl, if_pos (by omega)]
      unfold bcells
      rw [List.getElem?_map, List.getElem?_append_right (by simp; omega)]
      simp [show i + 2 - min i l.length = 2 by omega]
    · rw [if_neg e, ← Array.getElem?_toList, h1]
      unfold bcells
      rw [List.getElem?_map, List.getElem?_map]
      congr 1
      by_cases hji : j < i
      · rw [List.getElem?_append_left (by simp; omega), List.getElem?_take, if_pos hji]
      · rw [List.getElem?_append_right (by simp; omega)]
        simp only [List.length_take, show min i l.length = i by omega]
        rcases (show j = i ∨ j = i + 1 by omega) with rfl | rfl
        · simp
        · simp
  · rw [if_neg hj, List.getElem?_eq_none (by rw [bcells_length, hlen]; omega)]
end Go.Proofs.YtkkipddgkfidmaaGreatDoor
