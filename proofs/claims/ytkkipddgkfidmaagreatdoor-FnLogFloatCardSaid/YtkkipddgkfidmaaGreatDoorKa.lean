/- The contract of nat's times: a number in words of 32 bits, times a small one, and a small one more. No conditions beyond each theorem's own. -/
import Derived.Test.YtkkipddgkfidmaaGreatDoorYa
import Derived.Test.YtkkipddgkfidmaaGreatDoorJb
import Derived.Deep.LoopGhost
import Derived.Deep.Cut
import Derived.Deep.CutRange
namespace Go.Proofs.YtkkipddgkfidmaaGreatDoor
open Go.RowKit

/-- What a row of words says, the least first. -/
def nv : List Nat → Nat
  | [] => 0
  | x :: l => x + 4294967296 * nv l
theorem nv_snoc (l : List Nat) (x : Nat) : nv (l ++ [x]) = nv l + 4294967296 ^ l.length * x := by
  induction l with
  | nil => simp [nv]
  | cons a l ih =>
    rw [List.cons_append, nv, ih, nv, List.length_cons, Nat.pow_succ, Nat.mul_add]
    have : 4294967296 * (4294967296 ^ l.length * x) = 4294967296 ^ l.length * 4294967296 * x := by ac_rfl
    omega

def ucells (l : List Nat) : List Value := l.map fun (n : Nat) => Value.int .u32 (n : Int)
theorem ucells_length (l : List Nat) : (ucells l).length = l.length := by simp [ucells]

/-- v is a row of words, not nil, that lies in the world from block B on. -/
def Nz (B : Nat) (v : Value) (l : List Nat) (w : World) : Prop := (∃ g cap cur, v = .slice (some ⟨g, 0, none⟩) l.length cap ∧ B ≤ g ∧ w.heap[g]? = some (.cells cur 69 (0, 0)) ∧ l.length ≤ cap ∧ cap ≤ maxLen ∧ cur.size = cap ∧ cur.toList.take l.length = ucells l) ∧ ∀ x ∈ l, x < 4294967296

theorem Nz.own {B : Nat} {v : Value} {l : List Nat} {w : World} (h : Nz B v l w) : w.ownsRow B 69 1 v l.length (ucells l) := by
  obtain ⟨⟨g, cap, cur, h1, h2, h3, h4, h5, h6, h7⟩, _⟩ := h
  exact ⟨by rw [ucells_length, Nat.mul_one], .inr ⟨g, cap, cur, h1, h2, h3, h4, h5, by rw [h6, Nat.mul_one], by rw [Nat.mul_one]; exact h7⟩⟩
theorem Nz.of_own {B : Nat} {v : Value} {l : List Nat} {w : World} (h : w.ownsRow B 69 1 v l.length (ucells l)) (hv : v ≠ .slice none 0 0) (hx : ∀ x ∈ l, x < 4294967296) : Nz B v l w := by
  refine ⟨?_, hx⟩
  rcases h.2 with ⟨h1, _⟩ | ⟨g, cap, cur, h1, h2, h3, h4, h5, h6, h7⟩
  · exact absurd h1 hv
  · exact ⟨g, cap, cur, h1, h2, h3, h4, h5, by simpa using h6, by simpa using h7⟩
theorem Nz.later {B : Nat} {v : Value} {l : List Nat} {w w' : World} (h : Nz B v l w) (hb : Below w.heap.size w w') : Nz B v l w' := by
  obtain ⟨⟨g, cap, cur, h1, h2, h3, h4⟩, hx⟩ := h
  exact ⟨⟨g, cap, cur, h1, h2, by rw [hb.block g (lt_of_block h3)]; exact h3, h4⟩, hx⟩
theorem Nz.mono {B B' : Nat} {v : Value} {l : List Nat} {w : World} (h : Nz B' v l w) (hB : B ≤ B') : Nz B v l w := by
  obtain ⟨⟨g, cap, cur, h1, h2, h3⟩, hx⟩ := h
  exact ⟨⟨g, cap, cur, h1, Nat.le_trans hB h2, h3⟩, hx⟩
theorem ucell {w : World} {g : Nat} {cur : Array Value} {l : List Nat} (hg : w.heap[g]? = some (.cells cur 69 (0, 0))) (h : cur.toList.take l.length = ucells l) (i : Nat) (hi : i < l.length) : w.cell? ⟨g, i, none⟩ = some (.int .u32 ((l[i]'hi : Nat) : Int)) := by
  rw [cell_at hg, ← Array.getElem?_toList]
  have : (cur.toList.take l.length)[i]? = (ucells l)[i]? := by rw [h]
  rw [List.getElem?_take, if_pos hi] at this
  rw [this]
  simp [ucells, hi]

theorem info69 : (Tryz.prog.info? 69).map (fun i => (i.zero, i.size, i.bytes)) = some (some (.int .u32 0), 1, 4) := by kernel_rfl

/-- One word is appended. -/
theorem wp_word {ops : Array Oper} {rest : List Oper} {o : Oper} {a : Act} {Q : Exit → Act → World → Prop} (hgd : o.guard = none) (s x : Operand)
    (ho : o.op = .call { callee := .builtin .append, args := #[s, x], argTypes := #[47, 47] }) (B : Nat) (w0 w : World) (v : Value) (l : List Nat) (c : Nat) (ci : Int) (hci : ci = (c : Int)) (hc32 : c < 4294967296) (hs : a.eval s = v) (hO : Nz B v l w)
    (hx : a.eval x = .slice (some ⟨w.heap.size, 0, none⟩) 1 1) (hlen : l.length ≤ 100000) (hb : Below B w0 w) (hB : B ≤ w0.heap.size)
    (h : ∀ v' w', Nz B v' (l ++ [c]) w' → Below B w0 w' → wpList Tryz.prog ops Q rest (a.put o.dst v') w') : wpList Tryz.prog ops Q (o :: rest) a (w.alloc (.cells #[.int .u32 ci] 69)) := by
  obtain ⟨i0, hi, hz0, hz1, hz2⟩ := info_parts info69
  have hBw : B ≤ (w.alloc (.cells #[.int .u32 ci] 69)).heap.size := by simp; have := hb.size; omega
  have hne : v ≠ .slice none 0 0 := by
    obtain ⟨⟨g, cap, cur, h1, _⟩, _⟩ := hO
    rw [h1]
    intro e
    cases e
  refine wpList_append_own _ hgd s x 47 ho B 69 i0 (.int .u32 0) 1 4 Tryz.underlying47 hi hz0 hz1 hz2 rfl (by decide) v l.length (ucells l) hs (hO.own.alloc _) ⟨w.heap.size, 0, none⟩ 1 1 [.int .u32 ci] hx rfl ?_ ?_ (by unfold maxLen; omega) (by omega) hBw ?_
  · intro j u hj
    match j, hj with
    | 0, hj =>
      simp only [List.getElem?_cons_zero, Option.some.injEq] at hj
      subst hj
      rw [Addr.add_lit, cell_at (heap_alloc_new w _)]
      rfl
  · intro u hu
    simp only [List.mem_singleton] at hu
    subst hu
    rfl
  · intro v' w' ho' hg hiff
    refine h v' w' (Nz.of_own ?_ ?_ ?_) ((hb.alloc (Nat.le_trans hB hb.size) _).grown hg hBw ?_)
    · rw [List.length_append]
      show w'.ownsRow B 69 1 v' (l.length + 1) _
      rw [show ucells (l ++ [c]) = ucells l ++ [.int .u32 ci] by rw [hci]; simp [ucells]]
      exact ho'
    · intro e
      exact hne (hiff.1 e).1
    · intro y hy
      rcases List.mem_append.1 hy with hy | hy
      · exact hO.2 y hy
      · rw [List.mem_singleton] at hy
        rw [hy]
        exact hc32
    · intro k hk
      exact (hO.own.lt k hk).1

theorem nv_take (L : List Nat) (i : Nat) (hi : i < L.length) : nv (L.take (i + 1)) = nv (L.take i) + 4294967296 ^ i * L[i] := by
  rw [← List.take_append_getElem hi, nv_snoc, List.length_take, show min i L.length = i by omega]

/-- One step of the product. -/
theorem times_step {O : List Nat} {i c x by' more T S : Nat} (hO : O.length = i) (hinv : nv O + 4294967296 ^ i * c = S * by' + more) (hT : c + x * by' = T) : nv (O ++ [T % 4294967296]) + 4294967296 ^ (i + 1) * (T / 4294967296) = (S + 4294967296 ^ i * x) * by' + more := by
  rw [nv_snoc, hO, Nat.pow_succ, Nat.add_mul]
  have e1 : 4294967296 ^ i * (T % 4294967296) + 4294967296 ^ i * 4294967296 * (T / 4294967296) = 4294967296 ^ i * T := by
    rw [Nat.mul_assoc, ← Nat.mul_add, Nat.mod_add_div]
  have e2 : 4294967296 ^ i * T = 4294967296 ^ i * c + 4294967296 ^ i * x * by' := by
    rw [← hT, Nat.mul_add, Nat.mul_assoc]
  omega

set_option maxRecDepth 100000 in
set_option maxHeartbeats 8000000 in
theorem ftimes (ao : Option Addr) (cap : Nat) (L : List Nat) (by' more : Nat) (hL : L.length ≤ 50000) (hL32 : ∀ x ∈ L, x < 4294967296) (hby : by' < 4294967296) (hmore : more < 4294967296) (w : World)
    (hrd : ∀ i (h : i < L.length), ∃ g, ao = some ⟨g, 0, none⟩ ∧ g < w.heap.size ∧ w.cell? ⟨g, i, none⟩ = some (.int .u32 ((L[i]'h : Nat) : Int))) :
    Calls Tryz.prog 28 #[.slice ao L.length cap, .int .u32 (by' : Int), .int .u32 (more : Int)] w fun e w' => ∃ v M, e = .returned v ∧ Nz w.heap.size v M w' ∧ nv M = nv L * by' + more ∧ M.length ≤ L.length + 1 ∧ Below w.heap.size w w' := by
  obtain ⟨i0, hi, hz0, hz1, hz2⟩ := info_parts info69
  obtain ⟨B, hB⟩ : ∃ B, w.heap.size = B := ⟨_, rfl⟩
  have hBl : B ≤ w.heap.size := by omega
  have HRD := Lib.hid hrd
  have HB := Lib.hid hB
  have H32 := Lib.hid hL32
  have hby' : (by' : Int) < 4294967296 := by omega
  have hmw : (more : Int) < 4294967296 := by omega
  obtain ⟨n, hn⟩ : ∃ n, L.length = n := ⟨_, rfl⟩
  rw [hn] at hL ⊢
  rw [hB]
  have HN := Lib.hid hn
  clear hrd hB hL32 hn
  go_enter Tryz.func28, Tryz.ntmps28
  go_wp2_with (at_make; refine wpList_make_own _ rfl _ _ 47 rfl B 69 i0 (.int .u32 0) 1 Tryz.underlying47 hi hz0 hz1 _ _ _ (n + 1) rfl rfl (by omega) (by rw [hz2]; omega) (by unfold maxLen; omega) hBl ?c0)
  case c0 =>
    intro w1 ho hg
    have hz : Nz B (.slice (some ⟨w.heap.size, 0, none⟩) 0 (n + 1)) [] w1 := Nz.of_own ho (by simp) (by intro x h; cases h)
    have hb1 : Below B w w1 := (Below.refl B w).grown hg hBl (by intro k hk; cases hk)
    have Z := Lib.hid hz
    have BB := Lib.hid hb1
    clear ho hg hz hb1 hi hz0 hz1 hz2
    go_wp2
    go_loopg [7, 8, 10, 19] n (fun gg s7 s8 s10 s19 wr => ∃ (i : Nat) (O : List Nat) (c : Nat), gg = n - i ∧ i ≤ n ∧ s19 = .int .i64 (i : Int) ∧ s8 = .int .u64 (c : Int) ∧ c < 4294967296 ∧ Nz B s7 O wr ∧ O.length = i ∧ nv O + 4294967296 ^ i * c = nv (L.take i) * by' + more ∧ Below B w wr)
    case atStart => exact ⟨0, [], more, rfl, Nat.zero_le _, rfl, rfl, hmore, Z.out, rfl, by simp [nv], BB.out⟩
    case round =>
      obtain ⟨i, O, c, rfl, hin, rfl, rfl, hc32, hO, hOl, hinv, hbw⟩ := hrel
      have R1 := Lib.hid hO
      have R2 := Lib.hid hOl
      have R3 := Lib.hid hinv
      have R4 := Lib.hid hbw
      clear hO hOl hinv hbw
      by_cases hlt : i < n
      · have hiL : i < L.length := by have := HN.out; omega
        obtain ⟨g, hao, hgB, hcell⟩ := HRD.out i hiL
        subst hao
        rw [HB.out] at hgB
        have hx32 := H32.out _ (List.getElem_mem hiL)
        obtain ⟨x, hx⟩ : ∃ x, L[i]'hiL = x := ⟨_, rfl⟩
        rw [hx] at hcell hx32
        have hc : wr.cell? ⟨g, i, none⟩ = some (.int .u32 (x : Int)) := by rw [R4.out.cell (show g < B from hgB)]; exact hcell
        obtain ⟨T, hT⟩ : ∃ T, c + x * by' = T := ⟨_, rfl⟩
        have hmul : x * by' ≤ 4294967295 * 4294967295 := Nat.mul_le_mul (by omega) (by omega)
        have hT64 : T < 18446744073709551616 := by omega
        have hTi : (c : Int) + (x : Int) * (by' : Int) = (T : Int) := by rw [← hT]; simp
        have hmi : (x : Int) * (by' : Int) ≤ 18446744065119617025 := by
          have : ((x * by' : Nat) : Int) ≤ 18446744065119617025 := by omega
          simpa using this
        have hmi0 : (0 : Int) ≤ (x : Int) * (by' : Int) := by
          have : (0 : Int) ≤ ((x * by' : Nat) : Int) := Int.natCast_nonneg _
          simpa using this
        have hlt' : (i : Int) < (n : Int) := by omega
        have HX := Lib.hid hx
        have HT := Lib.hid hT
        clear hcell hx hT hmul
        go_wp2_with (at_builtin; refine wp_word rfl _ _ rfl B w wr u7 O (T % 4294967296) _ (by first | rfl | omega | simp) (Nat.mod_lt _ (by decide)) rfl R1.out rfl (by have := R2.out; omega) R4.out hBl ?c1)
        case c1 =>
          intro v2 w2 h1 h2
          have S1 := Lib.hid h1
          have S2 := Lib.hid h2
          clear h1 h2 hc hmi hmi0
          go_wp2
          go_roundg (n - (i + 1))
          case measure => omega
          case rel =>
            refine ⟨i + 1, _, T / 4294967296, rfl, by omega, by go_num, by first | rfl | (congr 1; omega), by omega, S1.out, by simp [R2.out], ?_, S2.out⟩
            rw [nv_take L i hiL, HX.out]
            exact times_step R2.out R3.out HT.out
      · obtain rfl : i = n := by omega
        have hall : L.take i = L := List.take_of_length_le (by have := HN.out; omega)
        have HALL := Lib.hid hall
        clear hall
        by_cases hc0 : 0 < c
        · have hc0' : (c : Int) > 0 := by omega
          go_wp2_with (at_builtin; refine wp_word rfl _ _ rfl B w wr u7 O c _ (by first | rfl | omega | simp) hc32 rfl R1.out rfl (by have := R2.out; omega) R4.out hBl ?c1)
          case c1 =>
            intro v2 w2 h1 h2
            have S1 := Lib.hid h1
            have S2 := Lib.hid h2
            clear h1 h2
            go_wp2
            go_ret
            refine ⟨_, _, rfl, S1.out, ?_, by simp [R2.out], S2.out⟩
            have := R3.out
            rw [HALL.out] at this
            rw [nv_snoc, R2.out]
            exact this
        · have hc0' : ¬ (c : Int) > 0 := by omega
          go_wp2
          go_ret
          refine ⟨_, rfl, O, R1.out, ?_, by have := R2.out; omega, R4.out⟩
          have h3 := R3.out
          rw [HALL.out, show c = 0 by omega, Nat.mul_zero, Nat.add_zero] at h3
          exact h3
end Go.Proofs.YtkkipddgkfidmaaGreatDoor
