/- The contracts of zap's UnmarshalText and ParseLevel, of the thin package's ZLevelParse and of the reference's ZLevelRead. -/
import Derived.Test.YtlnidnihhfjcpaaGreatDoorWt
import Derived.Test.YtlnidnihhfjcpaaGreatDoorWb
namespace Go.Proofs.YtlnidnihhfjcpaaGreatDoor
open Go.RowKit

theorem look_range {l : List UInt8} {n : Int} (h : look l = some n) : -1 ≤ n ∧ n ≤ 5 := by
  rcases look_cases h with ⟨_, rfl⟩ | ⟨_, rfl⟩ | ⟨_, rfl⟩ | ⟨_, rfl⟩ | ⟨_, rfl⟩ | ⟨_, rfl⟩ | ⟨_, rfl⟩ | ⟨_, rfl⟩ | ⟨_, rfl⟩ <;> decide
theorem readP_range {l : List UInt8} {n : Int} (h : readP l = some n) : -1 ≤ n ∧ n ≤ 5 := by
  rw [readP_low] at h
  exact look_range h

set_option maxHeartbeats 400000 in
theorem errNew (s : ByteArray) (w : World) :
    Calls Tryz.prog 96 #[.string s] w fun e w' => e = .returned (.iface 148 (.pointer (some ⟨w.heap.size, 0, none⟩))) ∧ Below w.heap.size w w' := by
  go_enter Tryz.func96, Tryz.ntmps96
  go_wp2
  go_ret
  exact ⟨rfl, by go_grown⟩

/-- What UnmarshalText leaves. -/
def Left8 (l : List UInt8) (lb : Nat) (e : Ending) (w' : World) : Prop :=
  (∃ n, readP l = some n ∧ e = .returned .nilIface ∧ w'.heap[lb]? = some (.cells #[.int .i8 n] 48 (0, 0))) ∨ (readP l = none ∧ (∃ p, e = .returned (.iface 148 p)) ∧ w'.heap[lb]? = some (.cells #[.int .i8 0] 48 (0, 0)))

theorem set_one {w : World} {lb : Nat} {x n : Int} (hl : w.heap[lb]? = some (.cells #[.int .i8 x] 48 (0, 0))) : (w.setCell ⟨lb, 0, none⟩ (.int .i8 n)).heap[lb]? = some (.cells #[.int .i8 n] 48 (0, 0)) := by
  have hlt := lt_of_block hl
  have hq : w.heap[lb] = .cells #[.int .i8 x] 48 (0, 0) := by
    rw [Array.getElem?_eq_getElem hlt] at hl
    exact Option.some.inj hl
  simp [World.setCell, hlt, Array.getElem_modify, hq]

set_option maxHeartbeats 2000000 in
theorem unmarshal (lb : Nat) (ao : Option Addr) (m c : Nat) (s : ByteArray) (hs : s.size ≤ 1000) (ha : ∀ i (h : i < s.size), (s[i]'h).toNat < 128) (w : World) (hl : w.heap[lb]? = some (.cells #[.int .i8 0] 48 (0, 0))) (hv : TextAt (.slice ao m c) s w) :
    Calls Tryz.prog 64 #[.pointer (some ⟨lb, 0, none⟩), .slice ao m c] w fun e w' => Left8 s.data.toList lb e w' ∧ Below lb w w' := by
  have hlw : lb < w.heap.size := lt_of_block hl
  have HL := Lib.hid hl
  have HV := Lib.hid hv
  have HA := Lib.hid ha
  clear hl hv ha
  cases h1 : look s.data.toList with
  | some n =>
    have hr : readP s.data.toList = some n := by unfold readP; rw [h1]; rfl
    have H1 := Lib.hid h1
    have HR := Lib.hid hr
    clear h1 hr
    go_enter Tryz.func64, Tryz.ntmps64
    go_wp2_with fail
    refine (unm_yes lb ao m c s n 0 w HL.out HV.out H1.out).mono ?_
    rintro e w1 ⟨rfl, rfl⟩
    go_wp2
    go_ret
    exact ⟨.inl ⟨n, HR.out, rfl, set_one HL.out⟩, (Below.refl lb w).setCell (p := ⟨lb, 0, none⟩) (Nat.le_refl _) _⟩
  | none =>
    have H1 := Lib.hid h1
    cases h2 : look (s.data.toList.map lowq) with
    | some n =>
      have hr : readP s.data.toList = some n := by rw [readP_low]; exact h2
      have H2 := Lib.hid h2
      have HR := Lib.hid hr
      clear h1 h2 hr
      go_enter Tryz.func64, Tryz.ntmps64
      go_wp2_with fail
      refine (unm_no lb ao m c s w HV.out H1.out).mono ?_
      rintro e w1 ⟨rfl, rfl⟩
      go_wp2_with fail
      refine (lower ao m c s hs HA.out w HV.out).mono ?_
      rintro e w2 ⟨⟨ao', m', c', rfl, ht⟩, hb⟩
      have hl2 : w2.heap[lb]? = some (.cells #[.int .i8 0] 48 (0, 0)) := by rw [hb.block lb hlw]; exact HL.out
      have HT := Lib.hid ht
      have HL2 := Lib.hid hl2
      have HB := Lib.hid (hb.mono (Nat.le_of_lt hlw))
      clear ht hl2 hb
      go_wp2_with fail
      refine (unm_yes lb ao' m' c' _ n 0 w2 HL2.out HT.out (by simpa using H2.out)).mono ?_
      rintro e w1 ⟨rfl, rfl⟩
      go_wp2
      go_ret
      exact ⟨.inl ⟨n, HR.out, rfl, set_one HL2.out⟩, HB.out.setCell (p := ⟨lb, 0, none⟩) (Nat.le_refl _) _⟩
    | none =>
      have hr : readP s.data.toList = none := by rw [readP_low]; exact h2
      have H2 := Lib.hid h2
      have HR := Lib.hid hr
      clear h1 h2 hr
      go_enter Tryz.func64, Tryz.ntmps64
      go_wp2_with fail
      refine (unm_no lb ao m c s w HV.out H1.out).mono ?_
      rintro e w1 ⟨rfl, rfl⟩
      go_wp2_with fail
      refine (lower ao m c s hs HA.out w HV.out).mono ?_
      rintro e w2 ⟨⟨ao', m', c', rfl, ht⟩, hb⟩
      have hl2 : w2.heap[lb]? = some (.cells #[.int .i8 0] 48 (0, 0)) := by rw [hb.block lb hlw]; exact HL.out
      have hs2 := hb.size
      have HT := Lib.hid ht
      have HL2 := Lib.hid hl2
      have HB := Lib.hid (hb.mono (Nat.le_of_lt hlw))
      clear ht hl2 hb
      go_wp2_with fail
      refine (unm_no lb ao' m' c' _ w2 HT.out (by simpa using H2.out)).mono ?_
      rintro e w1 ⟨rfl, rfl⟩
      go_wp2_with fail
      refine (errNew _ w2).mono ?_
      rintro e w3 ⟨rfl, hb3⟩
      have hl3 : w3.heap[lb]? = some (.cells #[.int .i8 0] 48 (0, 0)) := by rw [hb3.block lb (by omega)]; exact HL2.out
      have HB3 := Lib.hid (HB.out.trans (hb3.mono (by omega)))
      have HL3 := Lib.hid hl3
      clear hb3 hl3
      go_wp2
      go_ret
      exact ⟨.inr ⟨HR.out, ⟨_, rfl⟩, HL3.out⟩, HB3.out⟩

set_option maxRecDepth 10000 in
set_option maxHeartbeats 1000000 in
theorem parseLevel (s : ByteArray) (hs : s.size ≤ 1000) (ha : ∀ i (h : i < s.size), (s[i]'h).toNat < 128) (w : World) :
    Calls Tryz.prog 33 #[.string s] w fun e w' => ((∃ n, readP s.data.toList = some n ∧ e = .returned (.tuple #[.int .i8 n, .nilIface])) ∨ (readP s.data.toList = none ∧ ∃ p, e = .returned (.tuple #[.int .i8 0, .iface 148 p]))) ∧ Below w.heap.size w w' := by
  have hcv := fun w s => run_bytes_of_string (P := Tryz.prog) w 9 35 5 s Tryz.underlying9 Tryz.underlying35 Tryz.underlying5
  have HA := Lib.hid ha
  clear ha
  go_enter Tryz.func33, Tryz.ntmps33
  go_wp2_with fail
  generalize grownCap (w.alloc (.cells #[.int .i8 0] 48)) s.size 0 5 = cap
  have hT := text_of_bytes s (w.alloc (.cells #[.int .i8 0] 48)) cap cap
  have hsz : (w.alloc (.cells #[.int .i8 0] 48)).heap.size = w.heap.size + 1 := by simp
  rw [hsz] at hT
  have hL : (((w.alloc (.cells #[.int .i8 0] 48)).alloc (.cells (bytesRow s cap) 5 ((bytesRow s cap).size, (bytesRow s cap).size + 1))).drew).heap[w.heap.size]? = some (.cells #[.int .i8 0] 48 (0, 0)) := by
    show ((w.heap.push _).push _)[w.heap.size]? = _
    have h2 : w.heap.size < (w.heap.push (Obj.cells #[.int .i8 0] 48)).size := by simp
    rw [Array.getElem?_push_lt h2, ← Array.getElem?_eq_getElem h2, Array.getElem?_push_size]
  have hB : Below w.heap.size w (((w.alloc (.cells #[.int .i8 0] 48)).alloc (.cells (bytesRow s cap) 5 ((bytesRow s cap).size, (bytesRow s cap).size + 1))).drew) := by go_grown
  generalize (((w.alloc (.cells #[.int .i8 0] 48)).alloc (.cells (bytesRow s cap) 5 ((bytesRow s cap).size, (bytesRow s cap).size + 1))).drew) = W1 at hT hL hB ⊢
  refine (unmarshal w.heap.size _ _ _ s hs HA.out W1 hL hT).mono ?_
  · rintro e w1 ⟨hl, hb⟩
    clear hT hL hcv
    have hb1 : Below w.heap.size w w1 := hB.trans hb
    have HB := Lib.hid hb1
    clear hb hb1
    rcases hl with ⟨n, hr, rfl, h8⟩ | ⟨hr, ⟨p, rfl⟩, h8⟩
    · have hc := cell_of_one h8
      have HR := Lib.hid hr
      clear hr h8
      go_wp2
      go_ret2
      exact ⟨.inl ⟨n, HR.out, rfl⟩, HB.out⟩
    · have hc := cell_of_one h8
      have HR := Lib.hid hr
      clear hr h8
      go_wp2
      go_ret2
      exact ⟨.inr ⟨HR.out, ⟨_, rfl⟩⟩, HB.out⟩

set_option maxHeartbeats 1000000 in
theorem zparse (s : ByteArray) (hs : s.size ≤ 1000) (ha : ∀ i (h : i < s.size), (s[i]'h).toNat < 128) (w : World) :
    Calls Tryz.prog 19 #[.string s] w fun e w' => ((∃ n, readP s.data.toList = some n ∧ e = .returned (.tuple #[.int .i64 n, .bool true])) ∨ (readP s.data.toList = none ∧ e = .returned (.tuple #[.int .i64 0, .bool false]))) ∧ Below w.heap.size w w' := by
  go_enter Tryz.func19, Tryz.ntmps19
  go_wp2_with fail
  refine (parseLevel s hs ha w).mono ?_
  rintro e w1 ⟨hl, hb⟩
  have HB := Lib.hid hb
  clear hb ha
  rcases hl with ⟨n, hr, rfl⟩ | ⟨hr, ⟨p, rfl⟩⟩
  · obtain ⟨h0, h1⟩ := readP_range hr
    have HR := Lib.hid hr
    clear hr
    go_wp2
    go_ret2
    exact ⟨.inl ⟨n, HR.out, rfl⟩, HB.out⟩
  · have HR := Lib.hid hr
    clear hr
    go_wp2
    go_ret2
    exact ⟨.inr ⟨HR.out, rfl⟩, HB.out⟩
end Go.Proofs.YtlnidnihhfjcpaaGreatDoor
