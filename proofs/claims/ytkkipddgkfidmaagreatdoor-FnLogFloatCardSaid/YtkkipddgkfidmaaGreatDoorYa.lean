/- Bytes appended to a row that the call itself has made. No conditions beyond each theorem's own. -/
import Derived.Test.YtkkipddgkfidmaaGreatDoorVf
import Derived.Lib.AppendStr
namespace Go.Proofs.YtkkipddgkfidmaaGreatDoor
open Go.RowKit

theorem info5 : (Tryz.prog.info? 5).map (fun i => (i.zero, i.size, i.bytes)) = some (some (.int .u8 0), 1, 1) := by kernel_rfl
theorem info_parts {P : Program} {e : TypeId} {z : Option Value} {s b : Nat} (h : (P.info? e).map (fun i => (i.zero, i.size, i.bytes)) = some (z, s, b)) : ∃ i, P.info? e = some i ∧ i.zero = z ∧ i.size = s ∧ i.bytes = b := by
  cases hi : P.info? e with
  | none => rw [hi] at h; cases h
  | some i =>
    rw [hi] at h
    simp only [Option.map_some, Option.some.injEq, Prod.mk.injEq] at h
    exact ⟨i, rfl, h.1, h.2.1, h.2.2⟩

/-- Bytes as cells. -/
def bcells (l : List UInt8) : List Value := l.map eb
/-- v is a row of bytes of the call's own, that holds l. -/
def Out (B : Nat) (v : Value) (l : List UInt8) (w : World) : Prop := w.ownsRow B 5 1 v l.length (bcells l)

theorem Out.nil (B : Nat) (w : World) : Out B (.slice none 0 0) [] w := World.ownsRow_nil _ _ _ _
theorem Out.shape {B : Nat} {v : Value} {l : List UInt8} {w : World} (h : Out B v l w) : ∃ ao c, v = .slice ao l.length c := by
  rcases h.2 with ⟨rfl, hl⟩ | ⟨g', cap, cur, rfl, _⟩
  · exact ⟨_, _, by rw [hl]⟩
  · exact ⟨_, _, rfl⟩
theorem Out.back {B : Nat} {v : Value} {l : List UInt8} {w w' : World} (h : Out B v l w) (hb : Below w.heap.size w w') : Out B v l w' := by
  refine ⟨h.1, ?_⟩
  rcases h.2 with hn | ⟨g, cap, cur, rfl, hBg, hg, h1, h2, h3, h4⟩
  · exact .inl hn
  · refine .inr ⟨g, cap, cur, rfl, hBg, ?_, h1, h2, h3, h4⟩
    have hlt : g < w.heap.size := by
      by_cases c : g < w.heap.size
      · exact c
      · rw [Array.getElem?_eq_none (by omega)] at hg; cases hg
    rw [hb.block g hlt]
    exact hg
theorem bcells_length (l : List UInt8) : (bcells l).length = l.length := by simp [bcells]
theorem bcells_append (l m : List UInt8) : bcells (l ++ m) = bcells l ++ bcells m := by simp [bcells]

/-- Bytes that lie somewhere are appended. -/
theorem wp_src {ops : Array Oper} {rest : List Oper} {o : Oper} {a : Act} {Q : Exit → Act → World → Prop} (hgd : o.guard = none) (s x : Operand)
    (ho : o.op = .call { callee := .builtin .append, args := #[s, x], argTypes := #[34, 34] }) (B : Nat) (w0 w : World) (v : Value) (l m : List UInt8) (hs : a.eval s = v) (hO : Out B v l w) (ad : Addr) (c : Nat)
    (hx : a.eval x = .slice (some ad) m.length c) (hm : ∀ j (h : j < m.length), w.cell? (ad.add j) = some (eb (m[j]'h))) (hlen : l.length + m.length ≤ 100000) (hb : Below B w0 w) (hB : B ≤ w0.heap.size)
    (h : ∀ v' w', Out B v' (l ++ m) w' → Below B w0 w' → wpList Tryz.prog ops Q rest (a.put o.dst v') w') : wpList Tryz.prog ops Q (o :: rest) a w := by
  obtain ⟨i0, hi, hz0, hz1, hz2⟩ := info_parts info5
  have hBw : B ≤ w.heap.size := Nat.le_trans hB hb.size
  refine wpList_append_own _ hgd s x 34 ho B 5 i0 (.int .u8 0) 1 1 Tryz.underlying34 hi hz0 hz1 hz2 rfl (by decide) v l.length (bcells l) hs hO ad m.length c (bcells m) hx (by rw [bcells_length, Nat.mul_one]) ?_ ?_ (by unfold maxLen; omega) (by omega) hBw ?_
  · intro j u hj
    by_cases hjm : j < m.length
    · rw [hm j hjm]
      simp only [bcells, List.getElem?_map, List.getElem?_eq_getElem hjm, Option.map_some, Option.some.injEq] at hj
      rw [hj]
    · rw [List.getElem?_eq_none (by rw [bcells_length]; omega)] at hj
      cases hj
  · intro u hu
    simp only [bcells, List.mem_map] at hu
    obtain ⟨b, _, rfl⟩ := hu
    rfl
  · intro v' w' ho' hg _
    refine h v' w' ?_ (hb.grown hg hBw ?_)
    · unfold Out
      rw [List.length_append, bcells_append]
      exact ho'
    · intro k hk
      exact (hO.lt k hk).1

/-- Bytes that were laid just before are appended. -/
theorem wp_lit {ops : Array Oper} {rest : List Oper} {o : Oper} {a : Act} {Q : Exit → Act → World → Prop} (hgd : o.guard = none) (s x : Operand)
    (ho : o.op = .call { callee := .builtin .append, args := #[s, x], argTypes := #[34, 34] }) (B : Nat) (w0 w : World) (v : Value) (l m : List UInt8) (A : Array Value) (hA : A.toList = bcells m) (hs : a.eval s = v) (hO : Out B v l w) (c : Nat)
    (hx : a.eval x = .slice (some ⟨w.heap.size, 0, none⟩) m.length c) (hlen : l.length + m.length ≤ 100000) (hb : Below B w0 w) (hB : B ≤ w0.heap.size)
    (h : ∀ v' w', Out B v' (l ++ m) w' → Below B w0 w' → wpList Tryz.prog ops Q rest (a.put o.dst v') w') : wpList Tryz.prog ops Q (o :: rest) a (w.alloc (.cells A 5)) := by
  have hBw : B ≤ w.heap.size := Nat.le_trans hB hb.size
  refine wp_src hgd s x ho B w0 (w.alloc (.cells A 5)) v l m hs (hO.alloc _) ⟨w.heap.size, 0, none⟩ c hx ?_ hlen (hb.alloc hBw _) hB h
  intro j hj
  have hA' : A = (bcells m).toArray := by rw [← hA]
  have hblk : (w.alloc (.cells A 5)).heap[w.heap.size]? = some (.cells A 5 (0, 0)) := heap_alloc_new w _
  have hadd : (⟨w.heap.size, 0, none⟩ : Addr).add j = ⟨w.heap.size, j, none⟩ := by unfold Addr.add; split <;> simp_all
  rw [hadd, cell_at hblk, hA']
  simp [bcells, hj]
end Go.Proofs.YtkkipddgkfidmaaGreatDoor
