/- The contract of prescale: the table's entry is stored. No conditions beyond each theorem's own. -/
import Derived.Test.YtkkipddgkfidmaaGreatDoorVb
import Derived.Handy
import Derived.Lib.AppendStr
import Derived.Lib.BufferRead
import Derived.Lib.Hide
import Derived.Lib.OthersKept
import Derived.Lib.SlBytesRow
import Derived.OneCell
import Derived.WalkKit
namespace Go.Proofs.YtkkipddgkfidmaaGreatDoor
open Go.RowKit

theorem setCell_block {w : World} {k : Nat} {cs : Array Value} {t : TypeId} (h : w.heap[k]? = some (.cells cs t (0, 0))) (j : Nat) (v : Value) : (w.setCell ⟨k, j, none⟩ v).heap[k]? = some (.cells (cs.setIfInBounds j v) t (0, 0)) := by
  obtain ⟨hlt, hq⟩ := Array.getElem?_eq_some_iff.1 h
  simp [World.setCell, hlt, Array.getElem_modify, hq]

theorem cell_at {w : World} {k j : Nat} {c : Array Value} {t : TypeId} {fz : Nat × Nat} (h : w.heap[k]? = some (.cells c t fz)) : w.cell? ⟨k, j, none⟩ = c[j]? := by simp [World.cell?, h]
theorem free_at {w : World} {k j : Nat} {c : Array Value} {t : TypeId} (h : w.heap[k]? = some (.cells c t (0, 0))) : w.frozen? ⟨k, j, none⟩ = false := by simp [World.frozen?, h]

set_option maxHeartbeats 1000000 in
theorem fprescale (k : Nat) (e p lp : Int) (i hi lo : Nat) (a b c : Value) (hp : p + 348 = i) (hi' : i < 696) (he : -3000 ≤ e ∧ e ≤ 3000) (hlp : -3000 ≤ lp ∧ lp ≤ 3000) (w : World) (hk : w.heap[k]? = some (.cells #[a, b, c] 133 (0, 0))) (hk7 : k ≠ 7)
    (h0 : w.cell? ⟨7, i * 2, none⟩ = some (.int .u64 (hi : Int))) (h1 : w.cell? ⟨7, i * 2 + 1, none⟩ = some (.int .u64 (lo : Int))) :
    Calls Tryz.prog 82 #[.pointer (some ⟨k, 0, none⟩), .int .i64 e, .int .i64 p, .int .i64 lp] w fun r w' => r = .returned (.tuple #[]) ∧ w'.heap[k]? = some (.cells #[.int .u64 (hi : Int), .int .u64 (lo : Int), .int .i64 (-(e + lp + 3))] 133 (0, 0)) ∧ Below k w w' := by
  have hc0 : w.cell? ⟨k, 0, none⟩ = some a := by rw [cell_at hk]; rfl
  have hc1 : w.cell? ⟨k, 1, none⟩ = some b := by rw [cell_at hk]; rfl
  have hc2 : w.cell? ⟨k, 2, none⟩ = some c := by rw [cell_at hk]; rfl
  have hf0 := free_at (j := 0) hk
  have hf1 := free_at (j := 1) hk
  have hf2 := free_at (j := 2) hk
  have HK := Lib.hid hk
  clear hk
  have hk7' : (7 : Nat) ≠ k := Ne.symm hk7
  go_enter Tryz.func82, Tryz.ntmps82
  go_wp2
  go_returns
  refine ⟨rfl, ?_, ?_⟩
  · have s1 := setCell_block HK.out 0 (.int .u64 (hi : Int))
    have s2 := setCell_block s1 1 (.int .u64 (lo : Int))
    have s3 := setCell_block s2 2 (.int .i64 (-(e + lp + 3)))
    exact s3
  · exact (((Below.refl k w).setCell (p := ⟨k, 0, none⟩) (Nat.le_refl _) _).setCell (p := ⟨k, 1, none⟩) (Nat.le_refl _) _).setCell (p := ⟨k, 2, none⟩) (Nat.le_refl _) _
end Go.Proofs.YtkkipddgkfidmaaGreatDoor
