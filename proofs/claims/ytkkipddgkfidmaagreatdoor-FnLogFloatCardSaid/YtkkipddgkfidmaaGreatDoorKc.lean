/- The contract of order: which of two numbers is the greater. No conditions beyond each theorem's own. -/
import Derived.Test.YtkkipddgkfidmaaGreatDoorKb
import Derived.Deep.QuietTactic
import Derived.BigQuiet
import Derived.Deep.CutBlock
namespace Go.Proofs.YtkkipddgkfidmaaGreatDoor
open Go.RowKit

def cmpI (x y : Nat) : Int := if x < y then -1 else if y < x then 1 else 0

theorem nv_append (a b : List Nat) : nv (a ++ b) = nv a + 4294967296 ^ a.length * nv b := by
  induction a with
  | nil => simp [nv]
  | cons x a ih =>
    rw [List.cons_append, nv, ih, nv, List.length_cons, Nat.pow_succ, Nat.mul_add]
    have : 4294967296 * (4294967296 ^ a.length * nv b) = 4294967296 ^ a.length * 4294967296 * nv b := by ac_rfl
    omega
theorem nv_lt (l : List Nat) (h : ∀ x ∈ l, x < 4294967296) : nv l < 4294967296 ^ l.length := by
  induction l with
  | nil => simp [nv]
  | cons x l ih =>
    have h1 := ih (fun y hy => h y (List.mem_cons_of_mem _ hy))
    have h2 := h x (List.mem_cons_self ..)
    rw [nv, List.length_cons, Nat.pow_succ]
    omega
theorem take_lt {L : List Nat} (h : ∀ x ∈ L, x < 4294967296) (n : Nat) : ∀ x ∈ L.take n, x < 4294967296 := fun x hx => h x (List.mem_of_mem_take hx)
theorem nv_strip {L : List Nat} {n : Nat} (hn : n + 1 ≤ L.length) (h0 : L[n]'(by omega) = 0) : nv (L.take (n + 1)) = nv (L.take n) := by
  rw [nv_take L n (by omega), h0, Nat.mul_zero, Nat.add_zero]
/-- The longer one, its first word no nought, is the greater. -/
theorem nv_longer {L M : List Nat} {n m : Nat} (hL : ∀ x ∈ L, x < 4294967296) (hn : n ≤ L.length) (hm : m + 1 ≤ M.length) (hne : M[m]'(by omega) ≠ 0) (hlt : n < m + 1) : nv (L.take n) < nv (M.take (m + 1)) := by
  have h1 := nv_lt (L.take n) (take_lt hL n)
  rw [List.length_take, show min n L.length = n by omega] at h1
  rw [nv_take M m (by omega)]
  have h2 : 4294967296 ^ n ≤ 4294967296 ^ m := Nat.pow_le_pow_right (by decide) (by omega)
  have h3 : 4294967296 ^ m * 1 ≤ 4294967296 ^ m * M[m]'(by omega) := Nat.mul_le_mul_left _ (by omega)
  omega
/-- The first words that differ decide. -/
theorem nv_first {L M : List Nat} {n i : Nat} (hL : ∀ x ∈ L, x < 4294967296) (hn : n ≤ L.length) (hm : n ≤ M.length) (hi : i < n) (heq : (L.take n).drop (i + 1) = (M.take n).drop (i + 1)) (hlt : L[i]'(by omega) < M[i]'(by omega)) : nv (L.take n) < nv (M.take n) := by
  have e1 : L.take n = L.take (i + 1) ++ (L.take n).drop (i + 1) := by
    have h := List.take_append_drop (i + 1) (L.take n)
    rw [List.take_take, show min (i + 1) n = i + 1 by omega] at h
    exact h.symm
  have e2 : M.take n = M.take (i + 1) ++ (M.take n).drop (i + 1) := by
    have h := List.take_append_drop (i + 1) (M.take n)
    rw [List.take_take, show min (i + 1) n = i + 1 by omega] at h
    exact h.symm
  rw [e1, e2, nv_append, nv_append, heq, List.length_take, List.length_take, show min (i + 1) L.length = i + 1 by omega, show min (i + 1) M.length = i + 1 by omega, nv_take L i (by omega), nv_take M i (by omega)]
  have h1 := nv_lt (L.take i) (take_lt hL i)
  rw [List.length_take, show min i L.length = i by omega] at h1
  have h3 : 4294967296 ^ i * (L[i]'(by omega) + 1) ≤ 4294967296 ^ i * M[i]'(by omega) := Nat.mul_le_mul_left _ hlt
  rw [Nat.mul_add, Nat.mul_one] at h3
  omega
theorem drop_step {L M : List Nat} {n i : Nat} (hn : n ≤ L.length) (hm : n ≤ M.length) (hi : i < n) (heq : (L.take n).drop (i + 1) = (M.take n).drop (i + 1)) (h : L[i]'(by omega) = M[i]'(by omega)) : (L.take n).drop i = (M.take n).drop i := by
  rw [List.drop_eq_getElem_cons (by simp; omega), List.drop_eq_getElem_cons (l := M.take n) (by simp; omega), heq]
  simp only [List.getElem_take, h]

set_option maxRecDepth 100000 in
set_option maxHeartbeats 8000000 in
theorem forder (va vb : Value) (L M : List Nat) (hl : L.length ≤ 20000) (hm : M.length ≤ 20000) (w : World) (ha : Nz 0 va L w) (hb : Nz 0 vb M w) :
    Calls Tryz.prog 32 #[va, vb] w fun e w' => e = .returned (.int .i64 (cmpI (nv L) (nv M))) ∧ Below w.heap.size w w' := by
  obtain ⟨⟨g, cap, cur, rfl, _, hg, hc, _, _, ht⟩, hL32⟩ := ha
  obtain ⟨⟨g', cap', cur', rfl, _, hg', hc', _, _, ht'⟩, hM32⟩ := hb
  have CA := Lib.hid (fun i (h : i < L.length) => ucell hg ht i h)
  have CB := Lib.hid (fun i (h : i < M.length) => ucell hg' ht' i h)
  have HL := Lib.hid hL32
  have HM := Lib.hid hM32
  obtain ⟨nL, hnL⟩ : ∃ n, L.length = n := ⟨_, rfl⟩
  obtain ⟨nM, hnM⟩ : ∃ n, M.length = n := ⟨_, rfl⟩
  rw [hnL] at hc hl ⊢
  rw [hnM] at hc' hm ⊢
  have HNL := Lib.hid hnL
  have HNM := Lib.hid hnM
  clear hg ht hg' ht' hL32 hM32 hnL hnM
  go_enter Tryz.func32, Tryz.ntmps32
  go_upto_block 0 with (fail)
  go_cut [0] from 6 to 22 (fun s0 wx => ∃ n : Nat, n ≤ nL ∧ s0 = .slice (some ⟨g, 0, none⟩) n cap ∧ nv (L.take n) = nv L ∧ (n = 0 ∨ ∃ h : n - 1 < L.length, L[n - 1]'h ≠ 0) ∧ wx = w)
  case first =>
    go_wp2_with fail
    go_loopg [0] nL (fun gg s0 wr => ∃ n : Nat, n = gg ∧ n ≤ nL ∧ s0 = .slice (some ⟨g, 0, none⟩) n cap ∧ nv (L.take n) = nv L ∧ wr = w)
    case atStart => exact ⟨nL, rfl, Nat.le_refl _, rfl, by rw [List.take_of_length_le (by have := HNL.out; omega)], rfl⟩
    case round =>
      obtain ⟨n, rfl, hn, rfl, hv, rfl⟩ := hrel
      have V1 := Lib.hid hv
      clear hv
      rcases Nat.eq_zero_or_pos n with h0 | h0
      · subst h0
        go_wp2_with fail
        go_meet
        exact ⟨0, Nat.zero_le _, rfl, V1.out, .inl rfl, rfl⟩
      · obtain ⟨i, rfl⟩ : ∃ i, n = i + 1 := ⟨n - 1, by omega⟩
        have hiL : i < L.length := by have := HNL.out; omega
        have hcell := CA.out i hiL
        obtain ⟨x, hx⟩ : ∃ x, L[i]'hiL = x := ⟨_, rfl⟩
        rw [hx] at hcell
        have HX := Lib.hid hx
        clear hx
        have hge : ((i + 1 : Nat) : Int) > 0 := by omega
        have hi1 : ((i + 1 : Nat) : Int) - 1 = (i : Int) := by omega
        have hilt : (i : Int) < ((i + 1 : Nat) : Int) := by omega
        have hicap : (i : Int) ≤ (cap : Int) := by omega
        by_cases hx0 : x = 0
        · subst hx0
          go_wp2_with fail
          go_roundg i
          case measure => omega
          case rel =>
            refine ⟨i, rfl, by omega, rfl, ?_, rfl⟩
            rw [← V1.out]
            exact (nv_strip (by omega) HX.out).symm
        · have hx0' : ((x : Int) == 0) = false := by rw [beq_eq_false_iff_ne]; omega
          go_wp2_with fail
          go_meet
          exact ⟨i + 1, hn, rfl, V1.out, .inr ⟨hiL, by show L[i]'hiL ≠ 0; rw [HX.out]; exact hx0⟩, rfl⟩
  case rest =>
    obtain ⟨n, hn, rfl, hv, hz, rfl⟩ := hcut
    have V1 := Lib.hid hv
    have Z1 := Lib.hid hz
    clear hv hz
    go_upto_block 2 with (fail)
    go_cut [1] from 23 to 39 (fun s0 wx => ∃ n2 : Nat, n2 ≤ nM ∧ s0 = .slice (some ⟨g', 0, none⟩) n2 cap' ∧ nv (M.take n2) = nv M ∧ (n2 = 0 ∨ ∃ h : n2 - 1 < M.length, M[n2 - 1]'h ≠ 0) ∧ wx = wc)
    case first =>
      go_wp2_with fail
      go_loopg [1] nM (fun gg s0 wr => ∃ n : Nat, n = gg ∧ n ≤ nM ∧ s0 = .slice (some ⟨g', 0, none⟩) n cap' ∧ nv (M.take n) = nv M ∧ wr = wc)
      case atStart => exact ⟨nM, rfl, Nat.le_refl _, rfl, by rw [List.take_of_length_le (by have := HNM.out; omega)], rfl⟩
      case round =>
        obtain ⟨n, rfl, hn, rfl, hv, hwr⟩ := hrel
        subst hwr
        have V1 := Lib.hid hv
        clear hv
        rcases Nat.eq_zero_or_pos n with h0 | h0
        · subst h0
          go_wp2_with fail
          go_meet
          exact ⟨0, Nat.zero_le _, rfl, V1.out, .inl rfl, rfl⟩
        · obtain ⟨i, rfl⟩ : ∃ i, n = i + 1 := ⟨n - 1, by omega⟩
          have hiL : i < M.length := by have := HNM.out; omega
          have hcell := CB.out i hiL
          obtain ⟨x, hx⟩ : ∃ x, M[i]'hiL = x := ⟨_, rfl⟩
          rw [hx] at hcell
          have HX := Lib.hid hx
          clear hx
          have hge : ((i + 1 : Nat) : Int) > 0 := by omega
          have hi1 : ((i + 1 : Nat) : Int) - 1 = (i : Int) := by omega
          have hilt : (i : Int) < ((i + 1 : Nat) : Int) := by omega
          have hicap : (i : Int) ≤ (cap' : Int) := by omega
          by_cases hx0 : x = 0
          · subst hx0
            go_wp2_with fail
            go_roundg i
            case measure => omega
            case rel =>
              refine ⟨i, rfl, by omega, rfl, ?_, rfl⟩
              rw [← V1.out]
              exact (nv_strip (by omega) HX.out).symm
          · have hx0' : ((x : Int) == 0) = false := by rw [beq_eq_false_iff_ne]; omega
            go_wp2_with fail
            go_meet
            exact ⟨i + 1, hn, rfl, V1.out, .inr ⟨hiL, by show M[i]'hiL ≠ 0; rw [HX.out]; exact hx0⟩, rfl⟩
    case rest =>
      obtain ⟨m, hm2, rfl, hv, hz, rfl⟩ := hcut
      have V2 := Lib.hid hv
      have Z2 := Lib.hid hz
      clear hv hz
      rcases Nat.lt_trichotomy n m with hlt | heq | hgt
      · have hne : ((n : Int) != (m : Int)) = true := by rw [bne_iff_ne]; omega
        have hlt' : (n : Int) < (m : Int) := by omega
        go_wp2
        go_ret
        refine ⟨?_, Below.refl _ _⟩
        obtain ⟨j, rfl⟩ : ∃ j, m = j + 1 := ⟨m - 1, by omega⟩
        rcases Z2.out with h | ⟨h, hx⟩
        · omega
        · have hc : nv (L.take n) < nv (M.take (j + 1)) := nv_longer HL.out (by have := HNL.out; omega) (by have := HNM.out; omega) hx hlt
          rw [V1.out, V2.out] at hc
          have hcm : cmpI (nv L) (nv M) = -1 := by unfold cmpI; rw [if_pos hc]
          rw [hcm]
          rfl
      · subst heq
        have hne : ((n : Int) != (n : Int)) = false := by simp
        go_wp2
        go_loopg [5] n (fun gg s5 wr => ∃ k : Nat, k = gg ∧ k ≤ n ∧ s5 = .int .i64 ((k : Int) - 1) ∧ (L.take n).drop k = (M.take n).drop k ∧ ∃ q, wr = wc.drewN q)
        case atStart => exact ⟨n, rfl, Nat.le_refl _, rfl, by rw [List.drop_of_length_le (by simp; omega), List.drop_of_length_le (by simp; omega)], 0, rfl⟩
        case round =>
          obtain ⟨k, rfl, hk, rfl, hd, q, rfl⟩ := hrel
          have D := Lib.hid hd
          clear hd
          rcases Nat.eq_zero_or_pos k with h0 | h0
          · subst h0
            go_wp2
            go_ret
            refine ⟨?_, drewN_below _ wc q⟩
            have hc : nv L = nv M := by
              have := D.out
              rw [List.drop_zero, List.drop_zero] at this
              rw [← V1.out, ← V2.out, this]
            have hcm : cmpI (nv L) (nv M) = 0 := by unfold cmpI; rw [hc, if_neg (Nat.lt_irrefl _), if_neg (Nat.lt_irrefl _)]
            rw [hcm]
            rfl
          · obtain ⟨i, rfl⟩ : ∃ i, k = i + 1 := ⟨k - 1, by omega⟩
            have hiL : i < L.length := by have := HNL.out; omega
            have hiM : i < M.length := by have := HNM.out; omega
            have ca := CA.out i hiL
            have cb := CB.out i hiM
            obtain ⟨x, hx⟩ : ∃ x, L[i]'hiL = x := ⟨_, rfl⟩
            obtain ⟨y, hy⟩ : ∃ y, M[i]'hiM = y := ⟨_, rfl⟩
            rw [hx] at ca
            rw [hy] at cb
            have ca' : (wc.drewN q).cell? ⟨g, i, none⟩ = some (.int .u32 (x : Int)) := ca
            have cb' : (wc.drewN q).cell? ⟨g', i, none⟩ = some (.int .u32 (y : Int)) := cb
            have HX := Lib.hid hx
            have HY := Lib.hid hy
            clear hx hy
            have hi1 : ((i + 1 : Nat) : Int) - 1 = (i : Int) := by omega
            have hge : (i : Int) ≥ 0 := by omega
            have hin : (i : Int) < (n : Int) := by omega
            rcases Nat.lt_trichotomy x y with hxy | hxy | hxy
            · have hxne : ((x : Int) != (y : Int)) = true := by rw [bne_iff_ne]; omega
              have hxy' : (x : Int) < (y : Int) := by omega
              go_wp2
              go_quiet (fail)
              go_wp2
              go_quiet (fail)
              go_wp2
              go_ret
              refine ⟨?_, ((drewN_below _ wc _).trans (drewN_below _ _ _)).trans (drewN_below _ _ _)⟩
              have hc := nv_first HL.out (by have := HNL.out; omega) (by have := HNM.out; omega) (by omega) D.out (by rw [HX.out, HY.out]; exact hxy)
              rw [V1.out, V2.out] at hc
              have hcm : cmpI (nv L) (nv M) = -1 := by unfold cmpI; rw [if_pos hc]
              rw [hcm]
              rfl
            · subst hxy
              have hxne : ((x : Int) != (x : Int)) = false := by simp
              go_wp2
              go_quiet (fail)
              go_wp2
              go_roundg i
              case measure => omega
              case rel => exact ⟨i, rfl, by omega, rfl, drop_step (by have := HNL.out; omega) (by have := HNM.out; omega) (by omega) D.out (by rw [HX.out, HY.out]), _, by first | rfl | exact World.drewN_drewN _ _ _⟩
            · have hxne : ((x : Int) != (y : Int)) = true := by rw [bne_iff_ne]; omega
              have hxy' : ¬ (x : Int) < (y : Int) := by omega
              go_wp2
              go_quiet (fail)
              go_wp2
              go_quiet (fail)
              go_wp2
              go_ret
              refine ⟨?_, ((drewN_below _ wc _).trans (drewN_below _ _ _)).trans (drewN_below _ _ _)⟩
              have hc := nv_first HM.out (by have := HNM.out; omega) (by have := HNL.out; omega) (by omega) D.out.symm (by rw [HX.out, HY.out]; exact hxy)
              rw [V1.out, V2.out] at hc
              have hcm : cmpI (nv L) (nv M) = 1 := by unfold cmpI; rw [if_neg (by omega), if_pos hc]
              rw [hcm]
              rfl
      · have hne : ((n : Int) != (m : Int)) = true := by rw [bne_iff_ne]; omega
        have hlt' : ¬ (n : Int) < (m : Int) := by omega
        go_wp2
        go_ret
        refine ⟨?_, Below.refl _ _⟩
        obtain ⟨j, rfl⟩ : ∃ j, n = j + 1 := ⟨n - 1, by omega⟩
        rcases Z1.out with h | ⟨h, hx⟩
        · omega
        · have hc : nv (M.take m) < nv (L.take (j + 1)) := nv_longer HM.out (by have := HNM.out; omega) (by have := HNL.out; omega) hx hgt
          rw [V1.out, V2.out] at hc
          have hcm : cmpI (nv L) (nv M) = 1 := by unfold cmpI; rw [if_neg (by omega), if_pos hc]
          rw [hcm]
          rfl
end Go.Proofs.YtkkipddgkfidmaaGreatDoor
