/- The contracts of zap's array encoder that LevelText reads, and of the thin package's ZLevelText for the seven levels. -/
import Derived.Test.YtlnidnihhfjcpaaGreatDoorWc
import Derived.Deep.RegionWith
import Derived.Deep.DeepMust
namespace Go.Proofs.YtlnidnihhfjcpaaGreatDoor
open Go.RowKit

/-- Block b is a slice encoder of the call's own (its elements lie from block B on) that holds the values xs. -/
def ZArr (B b : Nat) (xs : List Value) (w : World) : Prop := ∃ sv, w.heap[b]? = some (.cells #[sv] 88 (0, 0)) ∧ w.ownsRow B 20 1 sv xs.length xs

theorem ZArr.one {B b : Nat} {x : Value} {w : World} (h : ZArr B b [x] w) : ∃ g cap, w.cell? ⟨b, 0, none⟩ = some (.slice (some ⟨g, 0, none⟩) 1 cap) ∧ w.cell? ⟨g, 0, none⟩ = some x := by
  obtain ⟨sv, hb, ho⟩ := h
  have ho2 := ho
  rcases ho.2 with ⟨rfl, h0⟩ | ⟨g, cap, cur, rfl, _⟩
  · simp at h0
  · refine ⟨g, cap, cell_of_one hb, ?_⟩
    have := ho2.cells (g := g) rfl 0 x (by simp)
    simpa [Addr.add] using this

theorem ZArr.drew {B b : Nat} {xs : List Value} {w : World} (h : ZArr B b xs w) : ZArr B b xs w.drew := h

theorem info20 : (Tryz.prog.info? 20).map (fun i => (i.zero, i.size, i.bytes)) = some (some .nilIface, 1, 16) := by kernel_rfl

set_option maxHeartbeats 400000 in
theorem arrString (B b : Nat) (xs : List Value) (s : ByteArray) (w : World) (hz : ZArr B b xs w) (hlen : xs.length + 1 ≤ 1000) (hB : B ≤ b) (hBw : B ≤ w.heap.size) :
    Calls Tryz.prog 178 #[.pointer (some ⟨b, 0, none⟩), .string s] w fun e w' => e = .returned (.tuple #[]) ∧ ZArr B b (xs ++ [.iface 9 (.string s)]) w' ∧ Below B w w' := by
  obtain ⟨sv, hb, ho⟩ := hz
  have hc := cell_of_one hb
  have hf := free_of_one hb
  obtain ⟨i0, hi, hz0, hz1, hz2⟩ := info_parts info20
  obtain ⟨ao, cp, hsv⟩ := row_shape ho
  rw [hsv] at hc
  have hb' : (w.alloc (.cells #[.iface 9 (.string s)] 20)).heap[b]? = some (.cells #[sv] 88 (0, 0)) := by rw [Below.heap_alloc _ _ _ (lt_of_block hb)]; exact hb
  have ho2 := ho.alloc (.cells #[.iface 9 (.string s)] 20)
  have hsb : sv.ownBlock ≠ some b := fun e => by
    obtain ⟨c, fz, h⟩ := row_is ho b e
    exact ne_of_types h hb (by decide) rfl
  have hlt : b < w.heap.size := lt_of_block hb
  have hown := fun k hk => (ho2.lt k hk).1
  have HB := Lib.hid hb'
  have HO := Lib.hid ho2
  have HS := Lib.hid hsv
  have HN := Lib.hid hsb
  have HW := Lib.hid hown
  clear hb ho hsv hb' ho2 hsb hown
  go_enter Tryz.func178, Tryz.ntmps178
  go_wp2_with (at_builtin; refine wpList_append_own _ rfl _ _ 86 rfl B 20 i0 .nilIface 1 16 Tryz.underlying86 hi hz0 hz1 hz2 rfl (by decide) _ _ _ rfl (HS.out ▸ HO.out) ⟨w.heap.size, 0, none⟩ 1 1 [.iface 9 (.string s)] rfl rfl ?c1 ?c2 ?c3 ?c4 ?c5 ?c6)
  case c1 =>
    intro j u hj
    match j, hj with
    | 0, hj => simp at hj; subst hj; simp [Addr.add]
  case c2 => intro u hu; simp at hu; subst hu; rfl
  case c3 => unfold maxLen; omega
  case c4 => omega
  case c5 => simp; omega
  case c6 =>
    intro v' w1 ho' hg _
    have hb1 : w1.heap[b]? = some (.cells #[sv] 88 (0, 0)) := by
      rw [hg.block b (lt_of_block HB.out) (fun e => HN.out (by rw [HS.out]; exact e.symm))]
      exact HB.out
    have hvb : v'.ownBlock ≠ some b := fun e => by
      obtain ⟨c, fz, h⟩ := row_is ho' b e
      exact ne_of_types h hb1 (by decide) rfl
    have R1 : ZArr B b (xs ++ [.iface 9 (.string s)]) (w1.setCell ⟨b, 0, none⟩ v') := ⟨v', one_setCell hb1, by
      rw [List.length_append]
      exact ownsRow_setCell_other ho' hvb _⟩
    have R2 : Below B w (w1.setCell ⟨b, 0, none⟩ v') := (((Below.refl B w).alloc hBw _).grown hg (by simp; omega) (fun k hk => HW.out k (by rw [HS.out]; exact hk))).setCell (by exact hB) _
    have hc1 : w1.cell? ⟨b, 0, none⟩ = some sv := cell_of_one hb1
    have hf1 : w1.frozen? ⟨b, 0, none⟩ = false := free_of_one hb1
    obtain ⟨ao', cp', hv'⟩ := row_shape ho'
    rw [hv'] at R1 R2 ⊢
    have H1 := Lib.hid R1
    have H2 := Lib.hid R2
    clear R1 R2 ho' hg hc hv' hb1 hvb
    go_wp2
    go_end0
    exact ⟨rfl, H1.out, H2.out⟩

theorem sae_ahead (b : Nat) (w : World) : (nilAhead 418 84 (.pointer (some ⟨b, 0, none⟩)) "AppendString").run Tryz.prog w = .ok (some false) w := by kernel_rfl
theorem sae_method (b : Nat) (w : World) : (method 418 84 (.pointer (some ⟨b, 0, none⟩)) "AppendString").run Tryz.prog w = .ok (178, .pointer (some ⟨b, 0, none⟩)) w := by kernel_rfl

set_option maxRecDepth 100000 in
set_option maxHeartbeats 1000000 in
theorem lowerEnc (n : Int) (h0 : -1 ≤ n) (h1 : n ≤ 5) (B b : Nat) (w : World) (hz : ZArr B b [] w) (hB : B ≤ b) (hBw : B ≤ w.heap.size) :
    Calls Tryz.prog 48 #[.int .i8 n, .iface 84 (.pointer (some ⟨b, 0, none⟩))] w fun e w' => e = .returned (.tuple #[]) ∧ ZArr B b [.iface 9 (.string (lvB n))] w' ∧ Below B w w' := by
  have HZ := Lib.hid hz
  clear hz
  have ha := sae_ahead b
  have hm := sae_method b
  go_enter Tryz.func48, Tryz.ntmps48
  go_wp2_with fail
  go_region_with (first | (go_at_call 82; refine (lvString n h0 h1 _).mono ?_; rintro e w1 ⟨rfl, rfl⟩) | (go_at_call 178; go_must (refine (arrString B b [] (lvB n) w.drew HZ.out.drew (by simp) hB hBw).mono ?_); rintro e w2 ⟨rfl, hz2, hb2⟩))
  all_goals
    go_end0
    exact ⟨rfl, hz2, ((Below.refl B w).drew).trans hb2⟩

set_option maxRecDepth 100000 in
set_option maxHeartbeats 1000000 in
theorem capitalEnc (n : Int) (h0 : -1 ≤ n) (h1 : n ≤ 5) (B b : Nat) (w : World) (hz : ZArr B b [] w) (hB : B ≤ b) (hBw : B ≤ w.heap.size) :
    Calls Tryz.prog 49 #[.int .i8 n, .iface 84 (.pointer (some ⟨b, 0, none⟩))] w fun e w' => e = .returned (.tuple #[]) ∧ ZArr B b [.iface 9 (.string (lvU n))] w' ∧ Below B w w' := by
  have HZ := Lib.hid hz
  clear hz
  have ha := sae_ahead b
  have hm := sae_method b
  go_enter Tryz.func49, Tryz.ntmps49
  go_wp2_with fail
  go_region_with (first | (go_at_call 83; refine (lvCapital n h0 h1 _).mono ?_; rintro e w1 ⟨rfl, rfl⟩) | (go_at_call 178; refine (arrString B b [] (lvU n) w.drew HZ.out.drew (by simp) hB hBw).mono ?_; rintro e w2 ⟨rfl, hz2, hb2⟩))
  all_goals
    go_end0
    exact ⟨rfl, hz2, ((Below.refl B w).drew).trans hb2⟩

set_option maxHeartbeats 400000 in
theorem sliceEnc (w : World) :
    Calls Tryz.prog 52 #[] w fun e w' => e = .returned (.pointer (some ⟨w.heap.size + 1, 0, none⟩)) ∧ ZArr w.heap.size (w.heap.size + 1) [] w' ∧ Below w.heap.size w w' ∧ w.heap.size + 1 < w'.heap.size := by
  have hmk : ∀ w, (Instr.makeSlice 86 (.int .i64 0) (.int .i64 2)).run Tryz.prog w = .ok (.slice (some ⟨w.heap.size, 0, none⟩) 0 2) (w.alloc (.cells #[.nilIface, .nilIface] 20)) := fun _ => by kernel_rfl
  go_enter Tryz.func52, Tryz.ntmps52
  go_wp2
  go_ret
  refine ⟨rfl, ⟨.slice (some ⟨w.heap.size, 0, none⟩) 0 2, ?_, ?_⟩, by go_grown, by simp⟩
  · have := heap_alloc_new (w.alloc (.cells #[.nilIface, .nilIface] 20)) (.cells #[.slice (some ⟨w.heap.size, 0, none⟩) 0 2] 88)
    rwa [World.size_alloc] at this
  · exact (World.ownsRow_made w #[.nilIface, .nilIface] 2 (Nat.le_refl _) (by decide) rfl).alloc _

end Go.Proofs.YtlnidnihhfjcpaaGreatDoor
