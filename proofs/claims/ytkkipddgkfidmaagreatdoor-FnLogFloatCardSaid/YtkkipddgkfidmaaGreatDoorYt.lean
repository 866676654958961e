/- The contracts of appendFloat at what is no number, of the Encoder's AppendFloat64 and AppendFloat32, and of LFloat. No conditions beyond each theorem's own. -/
import Derived.Test.YtkkipddgkfidmaaGreatDoorYs
import Derived.Lib.BufferRead
namespace Go.Proofs.YtkkipddgkfidmaaGreatDoor
open Go.RowKit

/-- A string is appended to nothing. -/
theorem wp_str {ops : Array Oper} {rest : List Oper} {o : Oper} {a : Act} {Q : Exit → Act → World → Prop} (hgd : o.guard = none) (s x : Operand)
    (ho : o.op = .call { callee := .builtin .append, args := #[s, x], argTypes := #[34, 9] }) (w : World) (t : ByteArray) (hs : a.eval s = .slice none 0 0) (hx : a.eval x = .string t) (hlen : t.size ≤ 100000)
    (h : ∀ v' w', Out w.heap.size v' t.data.toList w' → Below w.heap.size w w' → wpList Tryz.prog ops Q rest (a.put o.dst v') w') : wpList Tryz.prog ops Q (o :: rest) a w := by
  obtain ⟨i0, hi, hz0, hz1, hz2⟩ := info_parts info5
  refine Lib.wpList_append_own_string _ hgd s x 34 9 ho w.heap.size 5 i0 Tryz.underlying34 Tryz.underlying9 hi hz0 hz1 hz2 (.slice none 0 0) 0 [] hs (World.ownsRow_nil _ _ _ _) t hx (by unfold maxLen; omega) (by omega) (Nat.le_refl _) ?_
  intro v' w' ho' hg _
  refine h v' w' ?_ ((Below.refl _ w).grown hg (Nat.le_refl _) (by intro k hk; cases hk))
  unfold Out
  have e : t.data.toList.length = t.size := by simp
  rw [e]
  simpa [Lib.strCells, bcells] using ho'

def App (w : World) (T : List UInt8 → Prop) (e : Ending) (w' : World) : Prop := ∃ v l, e = .returned v ∧ T l ∧ Out w.heap.size v l w' ∧ Below w.heap.size w w'

theorem appNaN (bits64 : Int) (b : Nat) (hN : (FloatKind.f64.format.order b b != some .eq) = true) (w : World) :
    Calls Tryz.prog 20 #[.slice none 0 0, .float .f64 b, .int .i64 bits64, .int .i64 (-1)] w (App w fun l => l = [34, 78, 97, 78, 34]) := by
  have C1 := Lib.hid (fisNaN b true hN w)
  clear hN
  go_enter Tryz.func20, Tryz.ntmps20
  go_wp2_with fail
  refine C1.out.mono ?_
  rintro e w1 ⟨rfl, rfl⟩
  go_wp2_with (at_builtin; refine wp_str rfl _ _ rfl w ⟨#[34, 78, 97, 78, 34]⟩ rfl rfl (by decide) ?c1)
  case c1 =>
    intro v' w' h1 h2
    have R1 := Lib.hid h1
    have R2 := Lib.hid h2
    clear h1 h2
    go_wp2
    go_ret
    exact ⟨_, _, rfl, rfl, R1.out, R2.out⟩
theorem appInf1 (bits64 : Int) (b : Nat) (hN : (FloatKind.f64.format.order b b != some .eq) = false) (hI1 : (FloatKind.f64.format.order b 9218868437227405311 == some .gt) = true) (w : World) :
    Calls Tryz.prog 20 #[.slice none 0 0, .float .f64 b, .int .i64 bits64, .int .i64 (-1)] w (App w fun l => l = [34, 43, 73, 110, 102, 34]) := by
  have C1 := Lib.hid (fisNaN b false hN w)
  have C2 := Lib.hid (fisInf1 b true hI1 w)
  clear hN hI1
  go_enter Tryz.func20, Tryz.ntmps20
  go_wp2_with fail
  refine C1.out.mono ?_
  rintro e w1 ⟨rfl, rfl⟩
  go_wp2_with fail
  refine C2.out.mono ?_
  rintro e w1 ⟨rfl, rfl⟩
  go_wp2_with (at_builtin; refine wp_str rfl _ _ rfl w ⟨#[34, 43, 73, 110, 102, 34]⟩ rfl rfl (by decide) ?c1)
  case c1 =>
    intro v' w' h1 h2
    have R1 := Lib.hid h1
    have R2 := Lib.hid h2
    clear h1 h2
    go_wp2
    go_ret
    exact ⟨_, _, rfl, rfl, R1.out, R2.out⟩
theorem appInf2 (bits64 : Int) (b : Nat) (hN : (FloatKind.f64.format.order b b != some .eq) = false) (hI1 : (FloatKind.f64.format.order b 9218868437227405311 == some .gt) = false) (hI2 : (FloatKind.f64.format.order (Op.negFloat .f64 b) 9218868437227405311 == some .gt) = true) (w : World) :
    Calls Tryz.prog 20 #[.slice none 0 0, .float .f64 b, .int .i64 bits64, .int .i64 (-1)] w (App w fun l => l = [34, 45, 73, 110, 102, 34]) := by
  have C1 := Lib.hid (fisNaN b false hN w)
  have C2 := Lib.hid (fisInf1 b false hI1 w)
  have C3 := Lib.hid (fisInf2 b true hI2 w)
  clear hN hI1 hI2
  go_enter Tryz.func20, Tryz.ntmps20
  go_wp2_with fail
  refine C1.out.mono ?_
  rintro e w1 ⟨rfl, rfl⟩
  go_wp2_with fail
  refine C2.out.mono ?_
  rintro e w1 ⟨rfl, rfl⟩
  go_wp2_with fail
  refine C3.out.mono ?_
  rintro e w1 ⟨rfl, rfl⟩
  go_wp2_with (at_builtin; refine wp_str rfl _ _ rfl w ⟨#[34, 45, 73, 110, 102, 34]⟩ rfl rfl (by decide) ?c1)
  case c1 =>
    intro v' w' h1 h2
    have R1 := Lib.hid h1
    have R2 := Lib.hid h2
    clear h1 h2
    go_wp2
    go_ret
    exact ⟨_, _, rfl, rfl, R1.out, R2.out⟩

theorem conv_row {w : World} {B : Nat} {sv : Value} {l : List UInt8} (ho : Out B sv l w) :
    (convert 34 9 sv).run Tryz.prog w = .ok (.string ⟨l.toArray⟩) w := by
  have ho2 := ho
  rcases ho.2 with ⟨rfl, h0⟩ | ⟨g, cap, cur, rfl, _⟩
  · have : l = [] := List.length_eq_zero_iff.1 h0
    subst this
    exact Lib.run_convert_nil_bytes (P := Tryz.prog) w 34 9 5 0 Tryz.underlying34 Tryz.underlying5 Tryz.underlying9
  · have hsz : (⟨l.toArray⟩ : ByteArray).size = l.length := by simp [ByteArray.size]
    have hby : Lib.Bytes w g 0 ⟨l.toArray⟩ := by
      intro i hi
      have hi' : i < l.length := by rw [← hsz]; exact hi
      have := ho2.cells (g := g) rfl i (.int .u8 (l[i].toNat : Int)) (by simp [bcells, hi'])
      rw [Addr.add_lit] at this
      exact this
    have := Lib.run_convert_whole (P := Tryz.prog) w 34 5 9 Tryz.underlying34 Tryz.underlying5 Tryz.underlying9 g 0 ⟨l.toArray⟩ hby cap
    rwa [hsz] at this

theorem App.up {w w1 : World} {T : List UInt8 → Prop} {e : Ending} {w' : World} (hb : Below w.heap.size w w1) (h : App w1 T e w') : App w T e w' := by
  obtain ⟨v, l, he, ht, ho, hbl⟩ := h
  exact ⟨v, l, he, ht, ho.mono hb.size, hb.trans (hbl.mono hb.size)⟩

theorem enc64 (b : Nat) (T : List UInt8 → Prop) (w : World) (hC : ∀ w', Below w.heap.size w w' → Calls Tryz.prog 20 #[.slice none 0 0, .float .f64 b, .int .i64 64, .int .i64 (-1)] w' (App w' T)) :
    Calls Tryz.prog 9 #[.agg #[], .slice none 0 0, .float .f64 b, .int .i64 (-1)] w (App w T) := by
  have HC := Lib.hid hC
  clear hC
  go_enter Tryz.func9, Tryz.ntmps9
  go_upto_region 1 with (fail)
  generalize hW : World.alloc _ _ = W
  have hb : Below w.heap.size w W := by rw [← hW]; exact (Below.refl _ w).alloc (Nat.le_refl _) _
  have HB := Lib.hid hb
  clear hW hb
  go_wp2_with fail
  refine (HC.out W HB.out).mono ?_
  rintro e w' h
  obtain ⟨v, l, rfl, ht, ho, hbl⟩ := App.up HB.out h
  have R1 := Lib.hid ht
  have R2 := Lib.hid ho
  have R3 := Lib.hid hbl
  clear h ht ho hbl
  go_wp2
  go_ret
  exact ⟨_, l, rfl, R1.out, R2.out, R3.out⟩

theorem enc32 (g b : Nat) (hcv : ∀ w, (convert 23 22 (.float .f32 g)).run Tryz.prog w = .ok (.float .f64 b) w) (T : List UInt8 → Prop) (w : World) (hC : ∀ w', Below w.heap.size w w' → Calls Tryz.prog 20 #[.slice none 0 0, .float .f64 b, .int .i64 32, .int .i64 (-1)] w' (App w' T)) :
    Calls Tryz.prog 8 #[.agg #[], .slice none 0 0, .float .f32 g, .int .i64 (-1)] w (App w T) := by
  have HC := Lib.hid hC
  clear hC
  go_enter Tryz.func8, Tryz.ntmps8
  go_upto_region 1 with (fail)
  generalize hW : World.alloc _ _ = W
  have hb : Below w.heap.size w W := by rw [← hW]; exact (Below.refl _ w).alloc (Nat.le_refl _) _
  have HB := Lib.hid hb
  clear hW hb
  go_wp2_with fail
  refine (HC.out W HB.out).mono ?_
  rintro e w' h
  obtain ⟨v, l, rfl, ht, ho, hbl⟩ := App.up HB.out h
  have R1 := Lib.hid ht
  have R2 := Lib.hid ho
  have R3 := Lib.hid hbl
  clear h ht ho hbl
  go_wp2
  go_ret
  exact ⟨_, l, rfl, R1.out, R2.out, R3.out⟩

theorem lfloat64 (b : Nat) (T : List UInt8 → Prop) (w : World) (hC : ∀ w', Below w.heap.size w w' → Calls Tryz.prog 20 #[.slice none 0 0, .float .f64 b, .int .i64 64, .int .i64 (-1)] w' (App w' T)) :
    Calls Tryz.prog 4 #[.float .f64 b, .int .i64 64, .int .i64 (-1)] w fun e w' => ∃ l, e = .returned (.string ⟨l.toArray⟩) ∧ T l ∧ Below w.heap.size w w' := by
  have HC := Lib.hid hC
  clear hC
  go_enter Tryz.func4, Tryz.ntmps4
  go_wp2_with fail
  refine (enc64 b T w HC.out).mono ?_
  rintro e w' ⟨v, l, rfl, ht, ho, hbl⟩
  have hcr := conv_row ho
  have R1 := Lib.hid ht
  have R3 := Lib.hid hbl
  clear ht ho hbl
  go_wp2
  go_ret
  exact ⟨l, rfl, R1.out, R3.out⟩

theorem lfloat32 (f g b : Nat) (hcv1 : ∀ w, (convert 22 23 (.float .f64 f)).run Tryz.prog w = .ok (.float .f32 g) w) (hcv : ∀ w, (convert 23 22 (.float .f32 g)).run Tryz.prog w = .ok (.float .f64 b) w) (T : List UInt8 → Prop) (w : World) (hC : ∀ w', Below w.heap.size w w' → Calls Tryz.prog 20 #[.slice none 0 0, .float .f64 b, .int .i64 32, .int .i64 (-1)] w' (App w' T)) :
    Calls Tryz.prog 4 #[.float .f64 f, .int .i64 32, .int .i64 (-1)] w fun e w' => ∃ l, e = .returned (.string ⟨l.toArray⟩) ∧ T l ∧ Below w.heap.size w w' := by
  have HC := Lib.hid hC
  have HV := Lib.hid hcv
  clear hC hcv
  go_enter Tryz.func4, Tryz.ntmps4
  go_wp2_with fail
  refine (enc32 g b HV.out T w HC.out).mono ?_
  rintro e w' ⟨v, l, rfl, ht, ho, hbl⟩
  have hcr := conv_row ho
  have R1 := Lib.hid ht
  have R3 := Lib.hid hbl
  clear ht ho hbl
  go_wp2
  go_ret
  exact ⟨l, rfl, R1.out, R3.out⟩
end Go.Proofs.YtkkipddgkfidmaaGreatDoor
