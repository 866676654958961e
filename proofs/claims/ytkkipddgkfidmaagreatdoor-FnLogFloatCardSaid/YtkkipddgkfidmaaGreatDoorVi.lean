/- The contracts of the reader's has: a text that stands there, or another. No conditions beyond each theorem's own. -/
import Derived.Test.YtkkipddgkfidmaaGreatDoorVc
import Derived.Deep.QuietTactic
import Derived.BigQuiet
namespace Go.Proofs.YtkkipddgkfidmaaGreatDoor
open Go.RowKit

set_option maxRecDepth 100000 in
set_option maxHeartbeats 4000000 in
theorem hasNo (j : Nat) (s t : ByteArray) (at' : Nat) (hat : at' + t.size ≤ s.size) (hs : s.size ≤ 1000) (hne : (s.extract at' (at' + t.size)).toList ≠ t.toList) (w : World)
    (c0 : w.cell? ⟨j, 0, none⟩ = some (.string s)) (c1 : w.cell? ⟨j, 1, none⟩ = some (.int .i64 (at' : Int))) :
    Calls Tryz.prog 24 #[.pointer (some ⟨j, 0, none⟩), .string t] w fun e w' => e = .returned (.bool false) ∧ ∃ m, w' = w.drewN m := by
  have hd : ¬ (s.size : Int) - (at' : Int) < (t.size : Int) := by omega
  have hdf : decide ((s.size : Int) - (at' : Int) < (t.size : Int)) = false := decide_eq_false hd
  have b2 : (at' : Int) + (t.size : Int) ≤ (s.size : Int) := by omega
  have hn : ((s.extract at' (at' + t.size)).toList == t.toList) = false := by rw [beq_eq_false_iff_ne]; exact hne
  have hn2 : ((s.extract at' (at' + t.size)).toList != t.toList) = true := by rw [bne_iff_ne]; exact hne
  go_enter Tryz.func24, Tryz.ntmps24
  go_wp2
  go_quiet (fail)
  go_wp2
  all_goals
    go_ret
    first | exact ⟨rfl, _, rfl⟩ | exact ⟨rfl, 0, rfl⟩

/-- The reader: its text, its place, its depth. -/
def Rd (j : Nat) (s : ByteArray) (at' : Nat) (deep : Int) (w : World) : Prop := w.heap[j]? = some (.cells #[.string s, .int .i64 (at' : Int), .int .i64 deep] 44 (0, 0))

theorem drewN_below (B : Nat) (w : World) (n : Nat) : Below B w (w.drewN n) := ⟨rfl, rfl, rfl, Nat.le_refl _, fun _ _ => rfl⟩

set_option maxRecDepth 100000 in
set_option maxHeartbeats 4000000 in
theorem hasYes (j : Nat) (s t : ByteArray) (at' : Nat) (deep : Int) (hat : at' + t.size ≤ s.size) (hs : s.size ≤ 1000) (heq : (s.extract at' (at' + t.size)).toList = t.toList) (w : World) (hr : Rd j s at' deep w) :
    Calls Tryz.prog 24 #[.pointer (some ⟨j, 0, none⟩), .string t] w fun e w' => e = .returned (.bool true) ∧ Rd j s (at' + t.size) deep w' ∧ Below j w w' := by
  have hd : ¬ (s.size : Int) - (at' : Int) < (t.size : Int) := by omega
  have hdf : decide ((s.size : Int) - (at' : Int) < (t.size : Int)) = false := decide_eq_false hd
  have b2 : (at' : Int) + (t.size : Int) ≤ (s.size : Int) := by omega
  have hn : ((s.extract at' (at' + t.size)).toList == t.toList) = true := by rw [beq_iff_eq]; exact heq
  have hn2 : ((s.extract at' (at' + t.size)).toList != t.toList) = false := by rw [heq]; simp
  have c0 : w.cell? ⟨j, 0, none⟩ = some (.string s) := by rw [cell_at hr]; rfl
  have c1 : w.cell? ⟨j, 1, none⟩ = some (.int .i64 (at' : Int)) := by rw [cell_at hr]; rfl
  have f1 : w.frozen? ⟨j, 1, none⟩ = false := free_at hr
  have HR := Lib.hid hr
  clear hr
  go_enter Tryz.func24, Tryz.ntmps24
  go_wp2
  go_quiet (fail)
  go_wp2
  all_goals
    go_ret
    refine ⟨rfl, ?_, ?_⟩
    · first | exact setCell_block (show (w.drewN _).heap[j]? = _ from HR.out) 1 (.int .i64 ((at' + t.size : Nat) : Int)) | exact setCell_block HR.out 1 (.int .i64 ((at' + t.size : Nat) : Int))
    · first | exact (drewN_below j w _).setCell (p := ⟨j, 1, none⟩) (Nat.le_refl _) _ | exact (Below.refl j w).setCell (p := ⟨j, 1, none⟩) (Nat.le_refl _) _
end Go.Proofs.YtkkipddgkfidmaaGreatDoor
