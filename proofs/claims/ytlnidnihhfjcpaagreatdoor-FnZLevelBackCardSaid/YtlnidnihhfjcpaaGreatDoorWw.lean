/- The walk of the law FnZLevelBack: it answers true for every text, level and turn. -/
import Derived.Test.YtlnidnihhfjcpaaGreatDoorWv
import Derived.Test.YtlnidnihhfjcpaaGreatDoorWl
namespace Go.Proofs.YtlnidnihhfjcpaaGreatDoor
open Go.RowKit

theorem upc_eq : upc = upq := rfl
theorem upB_list (s : ByteArray) : (upB s).data.toList = s.data.toList.map upq := by
  unfold upB
  rw [upc_eq]
  simp
theorem ascii_mem {s : ByteArray} (h : ∀ i (h : i < s.size), (s[i]'h).toNat < 128) : ∀ c ∈ s.data.toList, c.toNat < 128 := by
  intro c hc
  obtain ⟨i, hi, rfl⟩ := List.mem_iff_getElem.1 hc
  exact h i (by simpa using hi)

/-- The name of the level y with the letter k in great. -/
def mixL (y : Int) (k : Nat) : List UInt8 := (lvB y).data.toList.set k ((lvB y).data.toList.getD k 0 - 32)
def good (y : Int) (l : List UInt8) : Bool := l.all (fun c => decide (c.toNat < 128)) && decide (readP l = some y) && decide (l.length ≤ 6)
theorem good_low {y : Int} (h0 : -1 ≤ y) (h1 : y ≤ 5) : good y (lvB y).data.toList = true ∧ good y (upB (lvB y)).data.toList = true ∧ 4 ≤ (lvB y).size ∧ (lvB y).size ≤ 6 ∧ ((List.range (lvB y).size).all fun k => good y (mixL y k) && decide (97 ≤ ((lvB y).data.toList.getD k 0).toNat) && decide (((lvB y).data.toList.getD k 0).toNat ≤ 122)) = true := by
  rcases seven h0 h1 with rfl | rfl | rfl | rfl | rfl | rfl | rfl <;> decide +kernel
theorem good_out {y : Int} {s : ByteArray} (h : good y s.data.toList = true) : (∀ i (h : i < s.size), (s[i]'h).toNat < 128) ∧ readP s.data.toList = some y ∧ s.size ≤ 6 := by
  unfold good at h
  simp only [Bool.and_eq_true, decide_eq_true_eq, List.all_eq_true] at h
  refine ⟨fun i hi => h.1.1 _ ?_, h.1.2, by simpa using h.2⟩
  exact List.mem_iff_getElem.2 ⟨i, by simpa using hi, rfl⟩

/-- ZLevelParse at a text that names y. -/
theorem zparse_good (y : Int) (s : ByteArray) (h : good y s.data.toList = true) (w : World) :
    Calls Tryz.prog 19 #[.string s] w fun e w' => e = .returned (.tuple #[.int .i64 y, .bool true]) ∧ Below w.heap.size w w' := by
  obtain ⟨h1, h2, h3⟩ := good_out h
  refine (zparse s (by omega) h1 w).mono ?_
  rintro e w1 ⟨h4 | h4, h5⟩
  · obtain ⟨n, hn, rfl⟩ := h4
    rw [h2] at hn
    cases hn
    exact ⟨rfl, h5⟩
  · rw [h2] at h4
    cases h4.1

theorem zparse_some (n : Int) (s : ByteArray) (hs : s.size ≤ 1000) (ha : ∀ i (h : i < s.size), (s[i]'h).toNat < 128) (h2 : readP s.data.toList = some n) (w : World) :
    Calls Tryz.prog 19 #[.string s] w fun e w' => e = .returned (.tuple #[.int .i64 n, .bool true]) ∧ Below w.heap.size w w' := by
  refine (zparse s hs ha w).mono ?_
  rintro e w1 ⟨h4 | h4, h5⟩
  · obtain ⟨n', hn, rfl⟩ := h4
    rw [h2] at hn
    cases hn
    exact ⟨rfl, h5⟩
  · rw [h2] at h4
    cases h4.1
theorem zparse_none (s : ByteArray) (hs : s.size ≤ 1000) (ha : ∀ i (h : i < s.size), (s[i]'h).toNat < 128) (h2 : readP s.data.toList = none) (w : World) :
    Calls Tryz.prog 19 #[.string s] w fun e w' => e = .returned (.tuple #[.int .i64 0, .bool false]) ∧ Below w.heap.size w w' := by
  refine (zparse s hs ha w).mono ?_
  rintro e w1 ⟨h4 | h4, h5⟩
  · obtain ⟨n', hn, rfl⟩ := h4
    rw [h2] at hn
    cases hn
  · exact ⟨h4.2, h5⟩

theorem mix_at (s : ByteArray) (w : World) (cap c k : Nat) (hk : k < s.size) (x : UInt8) :
    (∀ j (h : j < s.size), ((w.alloc (.cells (bytesRow s cap) 5 ((bytesRow s cap).size, (bytesRow s cap).size + 1))).drew).cell? ⟨w.heap.size, j, none⟩ = some (.int .u8 (s[j].toNat : Int)) ∧ ((w.alloc (.cells (bytesRow s cap) 5 ((bytesRow s cap).size, (bytesRow s cap).size + 1))).drew).frozen? ⟨w.heap.size, j, none⟩ = false) ∧
    TextAt (.slice (some ⟨w.heap.size, 0, none⟩) s.size c) ⟨(s.data.toList.set k x).toArray⟩ (((w.alloc (.cells (bytesRow s cap) 5 ((bytesRow s cap).size, (bytesRow s cap).size + 1))).drew).setCell ⟨w.heap.size, k, none⟩ (.int .u8 (x.toNat : Int))) := by
  have hz := upTo_zero s w cap
  have hlt : w.heap.size < ((w.alloc (.cells (bytesRow s cap) 5 ((bytesRow s cap).size, (bytesRow s cap).size + 1))).drew).heap.size := by
    show w.heap.size < (w.heap.push _).size
    simp
  generalize (w.alloc (.cells (bytesRow s cap) 5 ((bytesRow s cap).size, (bytesRow s cap).size + 1))).drew = W at hz hlt
  refine ⟨fun j h => by simpa using hz j h, ?_⟩
  intro w' hb
  have hsz : (⟨(s.data.toList.set k x).toArray⟩ : ByteArray).size = s.size := by
    show (s.data.toList.set k x).toArray.size = _
    simp
  have hby : Lib.Bytes w' w.heap.size 0 ⟨(s.data.toList.set k x).toArray⟩ := by
    intro i hi
    have hi' : i < s.size := by rw [← hsz]; exact hi
    rw [Nat.zero_add, hb.cell (by simpa [World.setCell] using hlt)]
    have hg : (⟨(s.data.toList.set k x).toArray⟩ : ByteArray)[i]'hi = (s.data.toList.set k x)[i]'(by simpa using hi') := rfl
    rw [hg]
    by_cases e : i = k
    · subst e
      rw [World.cell?_setCell_same _ _ _ (hz i hi').1]
      simp
    · rw [World.cell?_setCell_other _ _ _ _ (by intro h'; injection h'; omega), (hz i hi').1]
      rw [List.getElem_set_ne (Ne.symm e)]
      rfl
  have := Lib.run_convert_whole (P := Tryz.prog) w' 35 5 9 Tryz.underlying35 Tryz.underlying5 Tryz.underlying9 w.heap.size 0 _ hby c
  rw [hsz] at this
  exact this

theorem mix_made (y : Int) (hy0 : -1 ≤ y) (hy1 : y ≤ 5) (k : Nat) (hk : k < (lvB y).size) (w : World) :
    ∃ (g cap : Nat) (W : World) (c : Int), (convert 9 35 (.string (lvB y))).run Tryz.prog w = .ok (.slice (some ⟨g, 0, none⟩) (lvB y).size cap) W ∧ W.cell? ⟨g, k, none⟩ = some (.int .u8 c) ∧ W.frozen? ⟨g, k, none⟩ = false ∧ 97 ≤ c ∧ c ≤ 122 ∧
      TextAt (.slice (some ⟨g, 0, none⟩) (lvB y).size cap) ⟨(mixL y k).toArray⟩ (W.setCell ⟨g, k, none⟩ (.int .u8 (c - 32))) ∧ Below w.heap.size w W ∧ w.heap.size ≤ g ∧ w.heap.size ≤ W.heap.size := by
  have hcv := run_bytes_of_string (P := Tryz.prog) w 9 35 5 (lvB y) Tryz.underlying9 Tryz.underlying35 Tryz.underlying5
  obtain ⟨_, _, _, _, q5⟩ := good_low hy0 hy1
  have q6 := List.all_eq_true.1 q5 k (List.mem_range.2 hk)
  simp only [Bool.and_eq_true, decide_eq_true_eq] at q6
  obtain ⟨⟨q7, q8⟩, q9⟩ := q6
  generalize grownCap w (lvB y).size 0 5 = cap at hcv
  have hm := mix_at (lvB y) w cap cap k hk ((lvB y).data.toList.getD k 0 - 32)
  have hb : Below w.heap.size w ((w.alloc (.cells (bytesRow (lvB y) cap) 5 ((bytesRow (lvB y) cap).size, (bytesRow (lvB y) cap).size + 1))).drew) := by go_grown
  have hx : (lvB y).data.toList.getD k 0 = (lvB y)[k] := by
    have hk' : k < (lvB y).data.toList.length := by simpa using hk
    rw [List.getD_eq_getElem?_getD, List.getElem?_eq_getElem hk']
    rfl
  have hsub : ((((lvB y).data.toList.getD k 0 - 32).toNat : Nat) : Int) = (((lvB y).data.toList.getD k 0).toNat : Int) - 32 := by
    rw [UInt8.toNat_sub_of_le _ _ (by rw [UInt8.le_iff_toNat_le]; exact Nat.le_trans (by decide) q8)]
    have : (32 : UInt8).toNat = 32 := rfl
    omega
  refine ⟨w.heap.size, cap, _, (((lvB y).data.toList.getD k 0).toNat : Int), hcv, ?_, (hm.1 k hk).2, by omega, by omega, ?_, hb, Nat.le_refl _, hb.size⟩
  · rw [hx]; exact (hm.1 k hk).1
  · rw [← hsub]; exact hm.2

theorem back_huge (s : ByteArray) (y z : Int) (h : 2147483647 < s.size) (w : World) :
    Calls Tryz.prog 6 #[.string s, .int .i64 y, .int .u8 z] w fun e w' => e = .returned (.bool true) ∧ Below w.heap.size w w' := by
  go_enter Tryz.func6, Tryz.ntmps6
  go_wp2
  go_ret
  exact ⟨rfl, Below.refl _ _⟩

set_option maxHeartbeats 1000000 in
theorem back_long (s : ByteArray) (y z : Int) (h1 : s.size ≤ 2147483647) (h : 100 < s.size) (w : World) (htab : Tab w.heap.size w) :
    Calls Tryz.prog 6 #[.string s, .int .i64 y, .int .u8 z] w fun e w' => e = .returned (.bool true) ∧ Below w.heap.size w w' := by
  have HT := Lib.hid htab
  clear htab
  go_enter Tryz.func6, Tryz.ntmps6
  go_wp2_with fail
  refine (awakeZ w HT.out).mono ?_
  rintro e w1 ⟨rfl, g1⟩
  go_wp2
  go_ret
  exact ⟨rfl, g1⟩

set_option maxRecDepth 100000 in
set_option maxHeartbeats 4000000 in
theorem back_in (s : ByteArray) (y z : Int) (hy0 : -9223372036854775808 ≤ y) (hy1 : y ≤ 9223372036854775807) (hz0 : 0 ≤ z) (hz1 : z ≤ 255) (h : s.size ≤ 100) (w : World) (htab : Tab w.heap.size w) :
    Calls Tryz.prog 6 #[.string s, .int .i64 y, .int .u8 z] w fun e w' => e = .returned (.bool true) ∧ Below w.heap.size w w' := by
  have HT := Lib.hid htab
  clear htab
  go_enter Tryz.func6, Tryz.ntmps6
  go_wp2
  go_loopw [7] (fun i wr => wr = w ∧ ∃ k : Nat, k ≤ s.size ∧ i = .int .i64 k ∧ ∀ j (h : j < s.size), j < k → (s[j]'h).toNat < 128) (fun i _ => s.size - (intOf i).toNat)
  case atStart => exact ⟨rfl, 0, Nat.zero_le _, rfl, fun j _ h0 => by omega⟩
  case round =>
    obtain ⟨rfl, k, hk, rfl, hj⟩ := hrel
    by_cases hlt : k < s.size
    · by_cases h128 : s[k].toNat < 128
      · have h1 : ¬ (128 : Int) ≤ (s[k].toNat : Int) := by omega
        have HJ := Lib.hid hj
        have H1 := Lib.hid h128
        clear hj h128
        go_wp2
        go_roundw
        case rel =>
          refine ⟨trivial, k + 1, by omega, by go_num, fun j hs h0 => ?_⟩
          by_cases e : j = k
          · subst e; exact H1.out
          · exact HJ.out j hs (by omega)
        case measure => simp [intOf]; omega
      · have h1 : (128 : Int) ≤ (s[k].toNat : Int) := by omega
        clear hj h128
        go_wp2_with fail
        refine (awakeZ wr HT.out).mono ?_
        rintro e w1 ⟨rfl, g1⟩
        clear h1
        go_wp2
        go_ret
        exact ⟨rfl, g1⟩
    · obtain rfl : k = s.size := by omega
      have hA : ∀ j (h : j < s.size), (s[j]'h).toNat < 128 := fun j h => hj j h h
      have hsame : readP s.data.toList = readU (upB s).data.toList := by rw [upB_list]; exact read_same _ (ascii_mem hA)
      have HA := Lib.hid hA
      have HS := Lib.hid hsame
      clear hA hsame hj hlt
      go_wp2_with fail
      refine (zlevelRead s (by omega) wr).mono ?_
      rintro e w1 ⟨hl, g1⟩
      have s1 := g1.size
      have G1 := Lib.hid g1
      have HL := Lib.hid hl
      clear g1 hl
      rcases HL.out with ⟨n, hr, rfl⟩ | ⟨hr, rfl⟩
      · clear HL
        have HR := Lib.hid hr
        clear hr
        go_wp2_with fail
        refine (zparse_some n s (by omega) HA.out (HS.out.trans HR.out) w1).mono ?_
        rintro e w2 ⟨rfl, g2⟩
        have s2 := g2.size
        have G2 := Lib.hid (G1.out.trans (g2.mono (by omega)))
        clear g2
        by_cases hy : y < -1 ∨ 5 < y
        · go_wp2_with fail
          refine (zlevel_no y hy w2).mono ?_
          rintro e w3 ⟨rfl, g3⟩
          have s3 := g3.size
          have G3 := Lib.hid (G2.out.trans (g3.mono (by omega)))
          clear g3
          go_wp2_with fail
          refine (awakeZ w3 (tab_up1 (HT.out.on G3.out) (by omega))).mono ?_
          rintro e w4 ⟨rfl, g4⟩
          have G4 := Lib.hid (G3.out.trans (g4.mono (by omega)))
          clear g4
          go_wp2
          go_ret
          exact ⟨rfl, G4.out⟩
        · have hyA : -1 ≤ y := by omega
          have hyB : y ≤ 5 := by omega
          clear hy
          go_wp2_with fail
          refine (zlevel_yes y hyA hyB w2).mono ?_
          rintro e w3 ⟨rfl, g3⟩
          have s3 := g3.size
          have G3 := Lib.hid (G2.out.trans (g3.mono (by omega)))
          clear g3
          obtain ⟨q1, q2, q3, q4, q5⟩ := good_low hyA hyB
          obtain ⟨k, hk, hkn⟩ : ∃ k : Nat, Int.tmod z (lvB y).size = (k : Int) ∧ k < (lvB y).size := ⟨(Int.tmod z (lvB y).size).toNat, by rw [Int.toNat_of_nonneg (Int.tmod_nonneg _ hz0)], by have := Int.tmod_lt_of_pos z (show 0 < ((lvB y).size : Int) by omega); have := Int.tmod_nonneg (b := ((lvB y).size : Int)) hz0; omega⟩
          have q6 := List.all_eq_true.1 q5 k (List.mem_range.2 hkn)
          simp only [Bool.and_eq_true, decide_eq_true_eq] at q6
          have q7 := q6.1.1
          clear q5 q6
          obtain ⟨g, cap, W, c, hcv, hc, hf, hc0, hc1, hx, hbW, hg, hsW⟩ := mix_made y hyA hyB k hkn w3
          generalize hbb : lvB y = b at *
          have Q1 := Lib.hid q1
          have Q2 := Lib.hid q2
          have Q7 := Lib.hid q7
          have HX := Lib.hid hx
          have G4 := Lib.hid ((G3.out.trans (hbW.mono (by omega))).setCell (p := ⟨g, k, none⟩) (by show wr.heap.size ≤ g; omega) (.int .u8 (c - 32)))
          clear q1 q2 q7 hx hbW hbb
          go_wp2_with fail
          clear hcv hc hf
          generalize W.setCell ⟨g, k, none⟩ (.int .u8 (c - 32)) = W2 at HX G4 ⊢
          have sW2 := G4.out.size
          refine (zparse_good y b Q1.out W2).mono ?_
          rintro e w5 ⟨rfl, g5⟩
          have s5 := g5.size
          have D5 := Lib.hid g5
          clear g5
          go_wp2_with fail
          refine (zupper b (by omega) w5).mono ?_
          rintro e w6 ⟨rfl, g6⟩
          have s6 := g6.size
          have D6 := Lib.hid (D5.out.trans (g6.mono (by omega)))
          clear g6
          go_wp2_with fail
          refine (zparse_good y (upB b) Q2.out w6).mono ?_
          rintro e w7 ⟨rfl, g7⟩
          have s7 := g7.size
          have hcx : (convert 35 9 (.slice (some ⟨g, 0, none⟩) b.size cap)).run Tryz.prog w7 = .ok (.string ⟨(mixL y k).toArray⟩) w7 := HX.out w7 (D6.out.trans (g7.mono (by omega)))
          have G7 := Lib.hid (G4.out.trans ((D6.out.trans (g7.mono (by omega))).mono (by omega)))
          clear g7
          go_wp2_with fail
          refine (zparse_good y ⟨(mixL y k).toArray⟩ Q7.out w7).mono ?_
          rintro e w8 ⟨rfl, g8⟩
          have G8 := Lib.hid (G7.out.trans (g8.mono (by omega)))
          clear g8 hcx
          go_wp2
          go_ret
          exact ⟨rfl, G8.out⟩
      · clear HL
        have HR := Lib.hid hr
        clear hr
        go_wp2_with fail
        refine (zparse_none s (by omega) HA.out (HS.out.trans HR.out) w1).mono ?_
        rintro e w2 ⟨rfl, g2⟩
        have s2 := g2.size
        have G2 := Lib.hid (G1.out.trans (g2.mono (by omega)))
        clear g2
        by_cases hy : y < -1 ∨ 5 < y
        · go_wp2_with fail
          refine (zlevel_no y hy w2).mono ?_
          rintro e w3 ⟨rfl, g3⟩
          have s3 := g3.size
          have G3 := Lib.hid (G2.out.trans (g3.mono (by omega)))
          clear g3
          go_wp2_with fail
          refine (awakeZ w3 (tab_up1 (HT.out.on G3.out) (by omega))).mono ?_
          rintro e w4 ⟨rfl, g4⟩
          have G4 := Lib.hid (G3.out.trans (g4.mono (by omega)))
          clear g4
          go_wp2
          go_ret
          exact ⟨rfl, G4.out⟩
        · have hyA : -1 ≤ y := by omega
          have hyB : y ≤ 5 := by omega
          clear hy
          go_wp2_with fail
          refine (zlevel_yes y hyA hyB w2).mono ?_
          rintro e w3 ⟨rfl, g3⟩
          have s3 := g3.size
          have G3 := Lib.hid (G2.out.trans (g3.mono (by omega)))
          clear g3
          obtain ⟨q1, q2, q3, q4, q5⟩ := good_low hyA hyB
          obtain ⟨k, hk, hkn⟩ : ∃ k : Nat, Int.tmod z (lvB y).size = (k : Int) ∧ k < (lvB y).size := ⟨(Int.tmod z (lvB y).size).toNat, by rw [Int.toNat_of_nonneg (Int.tmod_nonneg _ hz0)], by have := Int.tmod_lt_of_pos z (show 0 < ((lvB y).size : Int) by omega); have := Int.tmod_nonneg (b := ((lvB y).size : Int)) hz0; omega⟩
          have q6 := List.all_eq_true.1 q5 k (List.mem_range.2 hkn)
          simp only [Bool.and_eq_true, decide_eq_true_eq] at q6
          have q7 := q6.1.1
          clear q5 q6
          obtain ⟨g, cap, W, c, hcv, hc, hf, hc0, hc1, hx, hbW, hg, hsW⟩ := mix_made y hyA hyB k hkn w3
          generalize hbb : lvB y = b at *
          have Q1 := Lib.hid q1
          have Q2 := Lib.hid q2
          have Q7 := Lib.hid q7
          have HX := Lib.hid hx
          have G4 := Lib.hid ((G3.out.trans (hbW.mono (by omega))).setCell (p := ⟨g, k, none⟩) (by show wr.heap.size ≤ g; omega) (.int .u8 (c - 32)))
          clear q1 q2 q7 hx hbW hbb
          go_wp2_with fail
          clear hcv hc hf
          generalize W.setCell ⟨g, k, none⟩ (.int .u8 (c - 32)) = W2 at HX G4 ⊢
          have sW2 := G4.out.size
          refine (zparse_good y b Q1.out W2).mono ?_
          rintro e w5 ⟨rfl, g5⟩
          have s5 := g5.size
          have D5 := Lib.hid g5
          clear g5
          go_wp2_with fail
          refine (zupper b (by omega) w5).mono ?_
          rintro e w6 ⟨rfl, g6⟩
          have s6 := g6.size
          have D6 := Lib.hid (D5.out.trans (g6.mono (by omega)))
          clear g6
          go_wp2_with fail
          refine (zparse_good y (upB b) Q2.out w6).mono ?_
          rintro e w7 ⟨rfl, g7⟩
          have s7 := g7.size
          have hcx : (convert 35 9 (.slice (some ⟨g, 0, none⟩) b.size cap)).run Tryz.prog w7 = .ok (.string ⟨(mixL y k).toArray⟩) w7 := HX.out w7 (D6.out.trans (g7.mono (by omega)))
          have G7 := Lib.hid (G4.out.trans ((D6.out.trans (g7.mono (by omega))).mono (by omega)))
          clear g7
          go_wp2_with fail
          refine (zparse_good y ⟨(mixL y k).toArray⟩ Q7.out w7).mono ?_
          rintro e w8 ⟨rfl, g8⟩
          have G8 := Lib.hid (G7.out.trans (g8.mono (by omega)))
          clear g8 hcx
          go_wp2
          go_ret
          exact ⟨rfl, G8.out⟩

theorem back (s : ByteArray) (y z : Int) (hy0 : -9223372036854775808 ≤ y) (hy1 : y ≤ 9223372036854775807) (hz0 : 0 ≤ z) (hz1 : z ≤ 255) (w : World) (htab : Tab w.heap.size w) :
    Calls Tryz.prog 6 #[.string s, .int .i64 y, .int .u8 z] w fun e w' => e = .returned (.bool true) ∧ Below w.heap.size w w' := by
  by_cases h1 : 2147483647 < s.size
  · exact back_huge s y z h1 w
  · by_cases h2 : 100 < s.size
    · exact back_long s y z (by omega) h2 w htab
    · exact back_in s y z hy0 hy1 hz0 hz1 (by omega) w htab
end Go.Proofs.YtlnidnihhfjcpaaGreatDoor
