/- The contracts of the reader's has and digits, more: which blocks are left as they were. No conditions beyond each theorem's own. The contract of the reader's digits, with the blocks that are left as they were: a run of digits is gone over and counted. No conditions beyond each theorem's own. -/
import Derived.Test.YtkkipddgkfidmaaGreatDoorVj
import Derived.Test.YtkkipddgkfidmaaGreatDoorVh
import Derived.Lib.Strings
namespace Go.Proofs.YtkkipddgkfidmaaGreatDoor
open Go.RowKit

/-- Block j alone may have changed. -/
def Only (j : Nat) (w w' : World) : Prop := Below j w w' ∧ w'.heap.size = w.heap.size ∧ ∀ k, k ≠ j → w'.heap[k]? = w.heap[k]?
theorem Only.refl (j : Nat) (w : World) : Only j w w := ⟨Below.refl _ _, rfl, fun _ _ => rfl⟩
theorem Only.trans {j : Nat} {a b c : World} (h : Only j a b) (k : Only j b c) : Only j a c := ⟨h.1.trans k.1, k.2.1.trans h.2.1, fun i hi => (k.2.2 i hi).trans (h.2.2 i hi)⟩
theorem Only.drewN (j : Nat) (w : World) (n : Nat) : Only j w (w.drewN n) := ⟨drewN_below j w n, rfl, fun _ _ => rfl⟩
theorem Only.set (j : Nat) (w : World) (o : Nat) (v : Value) : Only j w (w.setCell ⟨j, o, none⟩ v) := by
  refine ⟨(Below.refl j w).setCell (p := ⟨j, o, none⟩) (Nat.le_refl _) _, ?_, fun k hk => Below.heap_setCell w ⟨j, o, none⟩ v k hk⟩
  simp [World.setCell]

set_option maxRecDepth 100000 in
set_option maxHeartbeats 4000000 in
theorem hasYesO (j : Nat) (s t : ByteArray) (at' : Nat) (deep : Int) (hat : at' + t.size ≤ s.size) (hs : s.size ≤ 1000) (heq : (s.extract at' (at' + t.size)).toList = t.toList) (w : World) (hr : Rd j s at' deep w) :
    Calls Tryz.prog 24 #[.pointer (some ⟨j, 0, none⟩), .string t] w fun e w' => e = .returned (.bool true) ∧ Rd j s (at' + t.size) deep w' ∧ Only j w w' := by
  have hd : ¬ (s.size : Int) - (at' : Int) < (t.size : Int) := by omega
  have hdf : decide ((s.size : Int) - (at' : Int) < (t.size : Int)) = false := decide_eq_false hd
  have b2 : (at' : Int) + (t.size : Int) ≤ (s.size : Int) := by omega
  have hn : ((s.extract at' (at' + t.size)).toList == t.toList) = true := by rw [beq_iff_eq]; exact heq
  have hn2 : ((s.extract at' (at' + t.size)).toList != t.toList) = false := by rw [heq]; simp
  have c0 : w.cell? ⟨j, 0, none⟩ = some (.string s) := by rw [cell_at hr]; rfl
  have c1 : w.cell? ⟨j, 1, none⟩ = some (.int .i64 (at' : Int)) := by rw [cell_at hr]; rfl
  have f1 : w.frozen? ⟨j, 1, none⟩ = false := free_at hr
  have HR := Lib.hid hr
  clear hr
  go_enter Tryz.func24, Tryz.ntmps24
  go_wp2
  go_quiet (fail)
  go_wp2
  all_goals
    go_ret
    refine ⟨rfl, ?_, ?_⟩
    · first | exact setCell_block (show (w.drewN _).heap[j]? = _ from HR.out) 1 (.int .i64 ((at' + t.size : Nat) : Int)) | exact setCell_block HR.out 1 (.int .i64 ((at' + t.size : Nat) : Int))
    · first | exact (Only.drewN j w _).trans (Only.set j _ 1 _) | exact Only.set j w 1 _

theorem one_toList (c : UInt8) : (⟨#[c]⟩ : ByteArray).toList = [c] := by
  have := Lib.extract_toList ⟨#[c]⟩ 0 1
  have e : (⟨#[c]⟩ : ByteArray).extract 0 1 = ⟨#[c]⟩ := rfl
  rw [e] at this
  exact this

theorem get_data (s : ByteArray) (i : Nat) (h : i < s.size) : s.data.toList[i]? = some (s[i]'h) := by
  rw [Array.getElem?_toList, Array.getElem?_eq_getElem h]
  rfl

theorem hasY (j : Nat) (s : ByteArray) (c : UInt8) (at' : Nat) (deep : Int) (hat : at' < s.size) (hc : s[at'] = c) (hs : s.size ≤ 1000) (w : World) (hr : Rd j s at' deep w) :
    Calls Tryz.prog 24 #[.pointer (some ⟨j, 0, none⟩), .string ⟨#[c]⟩] w fun e w' => e = .returned (.bool true) ∧ Rd j s (at' + 1) deep w' ∧ Only j w w' := by
  refine hasYesO j s ⟨#[c]⟩ at' deep hat hs ?_ w hr
  rw [one_toList, Lib.extract_toList]
  show (s.data.toList.drop at').take (at' + 1 - at') = [c]
  have h0 := get_data s at' hat
  have hl : at' < s.data.toList.length := by simpa using hat
  rw [List.drop_eq_getElem_cons hl, show at' + 1 - at' = 1 by omega, List.take_succ_cons, List.take_zero]
  rw [List.getElem?_eq_getElem hl, hc] at h0
  simp only [Option.some.injEq] at h0
  rw [h0]

/-- A text that begins otherwise, or is too long. -/
theorem hasN (j : Nat) (s t : ByteArray) (at' : Nat) (deep : Int) (hat : at' ≤ s.size) (hs : s.size ≤ 1000) (ht : t.size ≤ 1000) (ht0 : 0 < t.size) (c : UInt8) (htc : t.data.toList.head? = some c) (hne : ∀ h : at' < s.size, s[at']'h ≠ c) (w : World) (hr : Rd j s at' deep w) :
    Calls Tryz.prog 24 #[.pointer (some ⟨j, 0, none⟩), .string t] w fun e w' => e = .returned (.bool false) ∧ Rd j s at' deep w' ∧ Only j w w' := by
  have c0 : w.cell? ⟨j, 0, none⟩ = some (.string s) := by rw [cell_at hr]; rfl
  have c1 : w.cell? ⟨j, 1, none⟩ = some (.int .i64 (at' : Int)) := by rw [cell_at hr]; rfl
  by_cases hsz : at' + t.size ≤ s.size
  · refine (hasNo j s t at' hsz hs ?_ w c0 c1).mono ?_
    · have hl : at' < s.size := by omega
      have hll : at' < s.data.toList.length := by simpa using hl
      intro he
      have e2 : t = t.extract 0 t.size := by simp
      rw [e2, Lib.extract_toList, Lib.extract_toList, List.drop_zero, show at' + (t.extract 0 t.size).size - at' = t.size by rw [← e2]; omega, Nat.sub_zero] at he
      have h1 := congrArg List.head? he
      obtain ⟨n, hn⟩ : ∃ n, t.size = n + 1 := ⟨t.size - 1, by omega⟩
      rw [hn, List.drop_eq_getElem_cons hll, List.take_succ_cons, List.head?_cons] at h1
      have h2 : (t.data.toList.take (n + 1)).head? = t.data.toList.head? := by
        cases t.data.toList <;> simp
      rw [h2, htc] at h1
      have h0 := get_data s at' hl
      rw [List.getElem?_eq_getElem hll] at h0
      exact hne hl (Option.some.inj (h0.symm.trans h1))
    · rintro e w' ⟨he, m, rfl⟩
      exact ⟨he, hr, Only.drewN j w m⟩
  · refine (hasShort j s t at' hat ht (by omega) w c0 c1).mono ?_
    rintro e w' ⟨he, m, rfl⟩
    exact ⟨he, hr, Only.drewN j w m⟩
end Go.Proofs.YtkkipddgkfidmaaGreatDoor
namespace Go.Proofs.YtkkipddgkfidmaaGreatDoor
open Go.RowKit

set_option maxRecDepth 100000 in
set_option maxHeartbeats 8000000 in
theorem fdigitsO (j : Nat) (s : ByteArray) (at' n : Nat) (deep : Int) (hat : at' + n ≤ s.size) (hs : s.size ≤ 2000) (hd : ∀ i (h : i < s.size), at' ≤ i → i < at' + n → 48 ≤ (s[i]'h).toNat ∧ (s[i]'h).toNat ≤ 57)
    (he : ∀ h : at' + n < s.size, ¬ (48 ≤ (s[at' + n]'h).toNat ∧ (s[at' + n]'h).toNat ≤ 57)) (w : World) (hr : Rd j s at' deep w) :
    Calls Tryz.prog 41 #[.pointer (some ⟨j, 0, none⟩)] w fun e w' => e = .returned (.int .i64 (n : Int)) ∧ Rd j s (at' + n) deep w' ∧ Only j w w' := by
  have HD := Lib.hid hd
  have HE := Lib.hid he
  have HR := Lib.hid hr
  clear hd he hr
  go_enter Tryz.func41, Tryz.ntmps41
  go_wp2
  go_loopw [3] (fun x wr => ∃ k : Nat, k ≤ n ∧ x = .int .i64 (k : Int) ∧ Rd j s (at' + k) deep wr ∧ Only j w wr) (fun x _ => n - (intOf x).toNat)
  case atStart => exact ⟨0, Nat.zero_le _, rfl, HR.out, Only.refl _ _⟩
  case round =>
    obtain ⟨k, hk, rfl, hrd, hb⟩ := hrel
    have c0 : wr.cell? ⟨j, 0, none⟩ = some (.string s) := by rw [cell_at hrd]; rfl
    have c1 : wr.cell? ⟨j, 1, none⟩ = some (.int .i64 ((at' + k : Nat) : Int)) := by rw [cell_at hrd]; rfl
    have f1 : wr.frozen? ⟨j, 1, none⟩ = false := free_at hrd
    have RD := Lib.hid hrd
    have HB := Lib.hid hb
    clear hrd hb
    obtain ⟨a, ha⟩ : ∃ a, at' + k = a := ⟨_, rfl⟩
    rw [ha] at c1
    have HA := Lib.hid ha
    by_cases hkn : k < n
    · have hlt : a < s.size := by omega
      obtain ⟨g0, g1⟩ := HD.out a hlt (by omega) (by omega)
      have g0' : (48 : Int) ≤ (s[a].toNat : Int) := by omega
      have g1' : (s[a].toNat : Int) ≤ 57 := by omega
      have hlt' : (a : Int) < (s.size : Int) := by omega
      clear ha
      go_wp2
      go_quiet (fail)
      go_wp2
      all_goals
        go_roundw
        case rel =>
          refine ⟨k + 1, by omega, by go_num, ?_, ?_⟩
          · have := RD.out
            rw [HA.out] at this
            have hs3 : at' + (k + 1) = a + 1 := by have := HA.out; omega
            rw [hs3]
            first | exact setCell_block (show (wr.drewN _).heap[j]? = _ from this) 1 (.int .i64 ((a + 1 : Nat) : Int)) | exact setCell_block this 1 (.int .i64 ((a + 1 : Nat) : Int))
          · first | exact (HB.out.trans (Only.drewN j wr _)).trans (Only.set j _ 1 _) | exact HB.out.trans (Only.set j _ 1 _)
        case measure => simp [intOf]; omega
    · obtain rfl : k = n := by omega
      by_cases hlt : a < s.size
      · have hlt' : (a : Int) < (s.size : Int) := by omega
        have hE : ¬ (48 ≤ (s[a]'hlt).toNat ∧ (s[a]'hlt).toNat ≤ 57) := by
          subst ha
          exact HE.out hlt
        clear ha
        by_cases h48 : 48 ≤ (s[a]'hlt).toNat
        · have g0' : (48 : Int) ≤ (s[a].toNat : Int) := by omega
          have g1' : ¬ (s[a].toNat : Int) ≤ 57 := by omega
          clear hE h48
          go_wp2
          go_quiet (fail)
          go_wp2
          all_goals
            go_ret
            refine ⟨rfl, ?_, ?_⟩
            · first | exact (show (wr.drewN _).heap[j]? = _ from RD.out) | exact RD.out
            · first | exact HB.out.trans (Only.drewN j wr _) | exact HB.out
        · have g0' : ¬ (48 : Int) ≤ (s[a].toNat : Int) := by omega
          have g0f : decide ((48 : Int) ≤ (s[a].toNat : Int)) = false := decide_eq_false g0'
          clear hE h48
          go_wp2
          go_quiet (fail)
          go_wp2
          all_goals
            go_ret
            refine ⟨rfl, ?_, ?_⟩
            · first | exact (show (wr.drewN _).heap[j]? = _ from RD.out) | exact RD.out
            · first | exact HB.out.trans (Only.drewN j wr _) | exact HB.out
      · have hf : decide ((a : Int) < (s.size : Int)) = false := decide_eq_false (by omega)
        clear ha
        go_wp2
        go_quiet (fail)
        go_wp2
        all_goals
          go_ret
          refine ⟨rfl, ?_, ?_⟩
          · first | exact (show (wr.drewN _).heap[j]? = _ from RD.out) | exact RD.out
          · first | exact HB.out.trans (Only.drewN j wr _) | exact HB.out
end Go.Proofs.YtkkipddgkfidmaaGreatDoor
