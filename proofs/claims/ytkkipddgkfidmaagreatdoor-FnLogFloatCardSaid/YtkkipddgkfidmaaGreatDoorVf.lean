/- The contract of setDigits: a number's decimal digits are laid, and the zeros behind are not counted. No conditions beyond each theorem's own. -/
import Derived.Test.YtkkipddgkfidmaaGreatDoorVc
namespace Go.Proofs.YtkkipddgkfidmaaGreatDoor
open Go.RowKit

abbrev eb : UInt8 → Value := fun b => Value.int .u8 (b.toNat : Int)

/-- The digits lie in the block. -/
def Digs (g : Nat) (l : List UInt8) (w : World) : Prop := ∀ j (h : j < l.length), w.cell? ⟨g, j, none⟩ = some (.int .u8 ((l[j]'h).toNat : Int))

theorem below_put (w : World) (g : Nat) (d : Array UInt8) (n : Nat) : Below g w ((Sort.putRow eb w g 0 d).drewN n) := by
  refine ⟨rfl, rfl, rfl, ?_, ?_⟩
  · show w.heap.size ≤ (Sort.putRow eb w g 0 d).heap.size
    simp [Sort.putRow, Sort.mapBlock]
  · intro k hk
    show (Sort.putRow eb w g 0 d).heap[k]? = w.heap[k]?
    have hne : ¬ g = k := by omega
    simp [Sort.putRow, Sort.mapBlock, Array.getElem?_modify, hne]

set_option maxRecDepth 100000 in
set_option maxHeartbeats 4000000 in
theorem fsetDigits (g u : Nat) (p : Int) (d0 : Array UInt8) (hd0 : d0.size = Lib.nDigits u) (h32 : Lib.nDigits u ≤ 32) (hu : u < 18446744073709551616) (hp0 : -2000 ≤ p) (hp1 : p ≤ 2000) (w : World) (hH : Sort.Holds eb w g 0 d0) :
    Calls Tryz.prog 65 #[.slice (some ⟨g, 0, none⟩) 32 32, .int .u64 (u : Int), .int .i64 p, .int .i64 (Lib.nDigits u : Int)] w fun e w' =>
      (∃ k : Nat, k ≤ Lib.nDigits u ∧ e = .returned (.tuple #[.int .i64 ((Lib.nDigits u : Int) + p), .int .i64 (k : Int)]) ∧ (∀ j (h : j < (Lib.decDigits u).length), k ≤ j → (Lib.decDigits u)[j] = 48)) ∧ Digs g (Lib.decDigits u) w' ∧ Below g w w' := by
  have F := Lib.hid (Tryz.internal_strconv_formatBase10 g 0 32 u d0 w hH (by rw [hd0]; exact Lib.lt_pow_nDigits u) hu (by omega))
  rw [hd0] at F
  have hlen := Lib.decDigits_length u
  have HR := Lib.hid (fun (v' : Nat) (dk : Array UInt8) => @Lib.row_is_numeral u v' dk)
  obtain ⟨nd, hnd⟩ : ∃ nd, Lib.nDigits u = nd := ⟨_, rfl⟩
  have HH := Lib.hid hH
  rw [hnd] at F hlen hd0 h32
  have HND := Lib.hid hnd
  have HD0 := Lib.hid hd0
  rw [hnd]
  clear hH hnd hd0
  go_enter Tryz.func65, Tryz.ntmps65
  go_wp2_with fail
  refine F.out.mono ?_
  rintro e w1 ⟨rfl, n, v', dk, rfl, hinv⟩
  rw [← HND.out] at hinv
  have hdig : Digs g (Lib.decDigits u) ((Sort.putRow eb w g 0 dk).drewN n) := by
    intro j hj
    have h1 := HR.out v' dk hinv j hj
    have hsz : dk.size = d0.size := by rw [hinv.size, HD0.out, HND.out]
    have h2 := Sort.cell?_putRow eb w g 0 d0 dk HH.out hsz j (by rw [hinv.size, HND.out, ← hlen]; exact hj)
    rw [Nat.zero_add] at h2
    rw [h1]
    exact h2
  have hb := below_put w g dk n
  generalize (Sort.putRow eb w g 0 dk).drewN n = W at hdig hb ⊢
  have HG := Lib.hid hdig
  have HB := Lib.hid hb
  clear hdig hb hinv
  go_wp2
  go_loopw [3] (fun x wr => wr = W ∧ ∃ k : Nat, k ≤ nd ∧ x = .int .i64 (k : Int) ∧ ∀ j (h : j < (Lib.decDigits u).length), k ≤ j → (Lib.decDigits u)[j] = 48) (fun x _ => (intOf x).toNat)
  case atStart => exact ⟨rfl, nd, Nat.le_refl _, rfl, fun j h h1 => by omega⟩
  case round =>
    obtain ⟨rfl, k, hk, rfl, hz⟩ := hrel
    by_cases h0 : k = 0
    · subst h0
      have HZ := Lib.hid hz
      clear hz
      go_wp2
      go_ret2
      exact ⟨⟨0, Nat.zero_le _, rfl, HZ.out⟩, HG.out, HB.out⟩
    · obtain ⟨i, rfl⟩ : ∃ i, k = i + 1 := ⟨k - 1, by omega⟩
      have hil : i < (Lib.decDigits u).length := by omega
      have hc := HG.out i hil
      obtain ⟨c, hcd⟩ : ∃ c : Int, c = (((Lib.decDigits u)[i]'hil).toNat : Int) := ⟨_, rfl⟩
      rw [← hcd] at hc
      have HC := Lib.hid hcd
      have HZ := Lib.hid hz
      clear hcd hz
      have hi1 : ((i + 1 : Nat) : Int) - 1 = (i : Int) := by omega
      by_cases h48 : c = 48
      · subst h48
        go_wp2
        go_roundw
        case rel =>
          refine ⟨trivial, i, by omega, rfl, fun j hj h1 => ?_⟩
          by_cases e : j = i
          · subst e
            apply UInt8.toNat_inj.1
            have := HC.out
            show _ = 48
            omega
          · exact HZ.out j hj (by omega)
        case measure => simp [intOf]
      · have h48' : (c == 48) = false := by rw [beq_eq_false_iff_ne]; exact h48
        go_wp2
        go_ret2
        exact ⟨⟨i + 1, hk, rfl, HZ.out⟩, HG.out, HB.out⟩
end Go.Proofs.YtkkipddgkfidmaaGreatDoor
