/- What the conversions between floats of 64 and of 32 bits give. No conditions beyond each theorem's own. A number of 32 bits, widened: its word, and that it is narrowed again to what it was. No conditions beyond each theorem's own. The contracts of LFloat at every float, at both widths. No conditions beyond each theorem's own. -/
import Derived.Test.YtkkipddgkfidmaaGreatDoorYt
import Derived.Laws.NewFold
namespace Go.Proofs.YtkkipddgkfidmaaGreatDoor
open Go.RowKit

theorem und22 : Tryz.prog.underlying 22 = some (.float .f64) := Tryz.underlying22
theorem und23 : Tryz.prog.underlying 23 = some (.float .f32) := Tryz.underlying23

theorem cv64_32 (f : Nat) (w : World) : (convert 22 23 (.float .f64 f)).run Tryz.prog w = (Conv.floatToFloat .f64 f .f32).run Tryz.prog w := by
  simp [convert, run_underlying und22, run_underlying und23]
theorem cv32_64 (f : Nat) (w : World) : (convert 23 22 (.float .f32 f)).run Tryz.prog w = (Conv.floatToFloat .f32 f .f64).run Tryz.prog w := by
  simp [convert, run_underlying und22, run_underlying und23]

theorem nan_cut32 (t : Nat) : 2139095040 < (t % 2 * 2 ^ 31 + 2139095040 + 1 + t / 2 % (2 ^ 23 - 1)) % 2147483648 ∧ t % 2 * 2 ^ 31 + 2139095040 + 1 + t / 2 % (2 ^ 23 - 1) < 4294967296 := by
  have h2 : t / 2 % (2 ^ 23 - 1) < 2 ^ 23 - 1 := Nat.mod_lt _ (by decide)
  have h1 : t % 2 = 0 ∨ t % 2 = 1 := by omega
  generalize t / 2 % (2 ^ 23 - 1) = r at *
  rcases h1 with h | h <;> rw [h] <;> omega
theorem nan_cut64 (t : Nat) : 9218868437227405312 < (t % 2 * 2 ^ 63 + 9218868437227405312 + 1 + t / 2 % (2 ^ 52 - 1)) % 9223372036854775808 ∧ t % 2 * 2 ^ 63 + 9218868437227405312 + 1 + t / 2 % (2 ^ 52 - 1) < 18446744073709551616 := by
  have h2 : t / 2 % (2 ^ 52 - 1) < 2 ^ 52 - 1 := Nat.mod_lt _ (by decide)
  have h1 : t % 2 = 0 ∨ t % 2 = 1 := by omega
  generalize t / 2 % (2 ^ 52 - 1) = r at *
  rcases h1 with h | h <;> rw [h] <;> omega

theorem nan_narrow {f : Nat} (h : NaN64 f) (w : World) : ∃ g, NaN32 g ∧ g < 4294967296 ∧ (convert 22 23 (.float .f64 f)).run Tryz.prog w = .ok (.float .f32 g) (w.drewN 1) := by
  obtain ⟨s, t, e⟩ := nan64 h
  refine ⟨(Question.nanConv .f32 f).cut (w.tape w.drawn (.nanConv .f32 f)), ?_, ?_, ?_⟩
  · exact (nan_cut32 _).1
  · exact (nan_cut32 _).2
  · rw [cv64_32]
    have hd : FloatKind.f64.decode f = .nan s t := e
    simp [Conv.floatToFloat, hd, Question.forced]
    rfl
theorem nan_widen {g : Nat} (h : NaN32 g) (w : World) : ∃ b, NaN64 b ∧ b < 18446744073709551616 ∧ (convert 23 22 (.float .f32 g)).run Tryz.prog w = .ok (.float .f64 b) (w.drewN 1) := by
  obtain ⟨s, t, e⟩ := nan32 h
  refine ⟨(Question.nanConv .f64 g).cut (w.tape w.drawn (.nanConv .f64 g)), ?_, ?_, ?_⟩
  · exact (nan_cut64 _).1
  · exact (nan_cut64 _).2
  · rw [cv32_64]
    have hd : FloatKind.f32.decode g = .nan s t := e
    simp [Conv.floatToFloat, hd, Question.forced]
    rfl

theorem single_lt (d : Ieee.Datum) : Ieee.single.write d < 4294967296 := Ieee.single.write_lt d
theorem double_lt (d : Ieee.Datum) : Ieee.double.write d < 18446744073709551616 := Ieee.double.write_lt d

/-- Any float of 64 bits is narrowed to some float of 32. -/
theorem narrow_any (f : Nat) (w : World) : ∃ g n, g < 4294967296 ∧ (convert 22 23 (.float .f64 f)).run Tryz.prog w = .ok (.float .f32 g) (w.drewN n) := by
  rcases kinds64 f with h | h | h
  · have e := fin64 h
    generalize neg64 f = s at e
    generalize mag64 (f % 9223372036854775808) = m at e
    generalize plc64 (f % 9223372036854775808) = q at e
    have hd : FloatKind.f64.decode f = .number s m q := e
    by_cases hi : (FloatKind.f32.decode (FloatKind.f32.encode (.number s m q))).isInfinity = true
    · refine ⟨(Question.floatToFloat f).cut (w.tape w.drawn (.floatToFloat f)), 1, ?_, ?_⟩
      · simp only [Question.cut]
        omega
      · rw [cv64_32]
        simp [Conv.floatToFloat, hd, hi, Question.forced]
        rfl
    · refine ⟨FloatKind.f32.encode (.number s m q), 0, single_lt _, ?_⟩
      rw [cv64_32]
      simp [Conv.floatToFloat, hd, hi]
      rfl
  · have e := inf64 h
    have hd : FloatKind.f64.decode f = .infinity (neg64 f) := e
    refine ⟨FloatKind.f32.encode (.infinity (neg64 f)), 0, single_lt _, ?_⟩
    rw [cv64_32]
    simp [Conv.floatToFloat, hd]
    rfl
  · obtain ⟨g, _, h2, h3⟩ := nan_narrow h w
    exact ⟨g, 1, h2, h3⟩

theorem inf_widen {g : Nat} (h : Inf32 g) : ∃ b, Inf64 b ∧ b < 18446744073709551616 ∧ neg64 b = neg32 g ∧ ∀ w, (convert 23 22 (.float .f32 g)).run Tryz.prog w = .ok (.float .f64 b) w := by
  have e := inf32 h
  have hd : FloatKind.f32.decode g = .infinity (neg32 g) := e
  refine ⟨FloatKind.f64.encode (.infinity (neg32 g)), ?_, double_lt _, ?_, fun w => ?_⟩
  · cases neg32 g <;> (unfold Inf64; decide)
  · cases neg32 g <;> decide
  · rw [cv32_64]
    simp [Conv.floatToFloat, hd]
theorem inf_narrow {f : Nat} (h : Inf64 f) : ∃ g, Inf32 g ∧ g < 4294967296 ∧ neg32 g = neg64 f ∧ ∀ w, (convert 22 23 (.float .f64 f)).run Tryz.prog w = .ok (.float .f32 g) w := by
  have e := inf64 h
  have hd : FloatKind.f64.decode f = .infinity (neg64 f) := e
  refine ⟨FloatKind.f32.encode (.infinity (neg64 f)), ?_, single_lt _, ?_, fun w => ?_⟩
  · cases neg64 f <;> (unfold Inf32; decide)
  · cases neg64 f <;> decide
  · rw [cv64_32]
    simp [Conv.floatToFloat, hd]
end Go.Proofs.YtkkipddgkfidmaaGreatDoor
namespace Go.Proofs.YtkkipddgkfidmaaGreatDoor
open Go.RowKit

def word64 (s : Bool) (R : Nat) : Nat := if s then 9223372036854775808 + R else R
def word32 (s : Bool) (r : Nat) : Nat := if s then 2147483648 + r else r

theorem word64_mod {s : Bool} {R : Nat} (h : R < 9223372036854775808) : word64 s R % 9223372036854775808 = R := by
  unfold word64
  split <;> omega
theorem word64_lt {s : Bool} {R : Nat} (h : R < 9223372036854775808) : word64 s R < 18446744073709551616 := by
  unfold word64
  split <;> omega
theorem word64_neg {s : Bool} {R : Nat} (h : R < 9223372036854775808) : neg64 (word64 s R) = s := by
  unfold word64 neg64
  cases s
  · simp only [Bool.false_eq_true, if_false, beq_eq_false_iff_ne]
    omega
  · simp only [if_true, beq_iff_eq]
    omega
theorem word32_mod {s : Bool} {r : Nat} (h : r < 2147483648) : word32 s r % 2147483648 = r := by
  unfold word32
  split <;> omega
theorem word32_neg {s : Bool} {r : Nat} (h : r < 2147483648) : neg32 (word32 s r) = s := by
  unfold word32 neg32
  cases s
  · simp only [Bool.false_eq_true, if_false, beq_eq_false_iff_ne]
    omega
  · simp only [if_true, beq_iff_eq]
    omega
theorem word32_is {g : Nat} (h : g < 4294967296) : word32 (neg32 g) (g % 2147483648) = g := by
  unfold word32 neg32
  split
  · rename_i h2
    rw [beq_iff_eq] at h2
    omega
  · rename_i h2
    rw [beq_iff_eq] at h2
    omega

theorem narrow_at {s : Bool} {R r m : Nat} {q : Int} (hR : R < 9218868437227405312) (hr : r < 2139095040) (hm : mag64 R = m) (hq : plc64 R = q) (he : Ieee.single.nearest s m q = word32 s r) (w : World) : (convert 22 23 (.float .f64 (word64 s R))).run Tryz.prog w = .ok (.float .f32 (word32 s r)) w := by
  have h63 : R < 9223372036854775808 := by omega
  have h31 : r < 2147483648 := by omega
  have hf : Fin64 (word64 s R) := by unfold Fin64; rw [word64_mod h63]; exact hR
  have hf2 : Fin32 (word32 s r) := by unfold Fin32; rw [word32_mod h31]; exact hr
  have e := fin64 hf
  rw [word64_mod h63, word64_neg h63, hm, hq] at e
  have e2 := fin32 hf2
  have hd : FloatKind.f64.decode (word64 s R) = .number s m q := e
  have hen : FloatKind.f32.encode (.number s m q) = word32 s r := he
  have hdi : (FloatKind.f32.decode (word32 s r)).isInfinity = false := by
    show (Ieee.single.read (word32 s r)).isInfinity = false
    rw [e2]
    rfl
  rw [cv64_32]
  simp [Conv.floatToFloat, hd, hen, hdi]

theorem place_facts {i : Int} {j : Nat} (h0 : -149 ≤ i) (h1 : i ≤ 104) (h2 : 29 ≤ j) (h3 : j ≤ 52) : ∃ A : Nat, (i - j + 1075).toNat = A ∧ (A : Int) = i - j + 1075 ∧ 1 ≤ A ∧ A ≤ 1200 := ⟨_, rfl, by omega, by omega, by omega⟩
theorem R_facts {A M : Nat} {q : Int} (h1 : 1 ≤ A) (h2 : A ≤ 1200) (hA : (A : Int) = q + 1075) (hj0 : 4503599627370496 ≤ M) (hj1 : M < 9007199254740992) : mag64 (A * 4503599627370496 + (M - 4503599627370496)) = M ∧ plc64 (A * 4503599627370496 + (M - 4503599627370496)) = q ∧ A * 4503599627370496 + (M - 4503599627370496) < 9218868437227405312 := by
  refine ⟨?_, ?_, by omega⟩
  · unfold mag64
    rw [if_neg (by omega)]
    omega
  · unfold plc64
    rw [if_neg (by omega), show (A * 4503599627370496 + (M - 4503599627370496)) / 4503599627370496 = A by omega]
    omega
theorem rung_back {r : Nat} : (if mag32 r < 8388608 then mag32 r else (plc32 r + 150).toNat * 8388608 + (mag32 r - 8388608)) = r := by
  unfold mag32 plc32
  by_cases c : r < 8388608
  · simp [c]
  · simp only [if_neg c]
    rw [if_neg (by omega)]
    omega

theorem fin_widen {r : Nat} (h : r < 2139095040) : ∃ R, R < 9218868437227405312 ∧ (∀ s w, (convert 23 22 (.float .f32 (word32 s r))).run Tryz.prog w = .ok (.float .f64 (word64 s R)) w) ∧ (∀ s w, (convert 22 23 (.float .f64 (word64 s R))).run Tryz.prog w = .ok (.float .f32 (word32 s r)) w) ∧
    ((mag32 r = 0 ∧ mag64 R = 0) ∨ (0 < mag32 r ∧ ∃ j : Nat, j ≤ 52 ∧ mag64 R = mag32 r * 2 ^ j ∧ plc64 R = plc32 r - j)) := by
  have h31 : r < 2147483648 := by omega
  have hdec : ∀ s, FloatKind.f32.decode (word32 s r) = .number s (mag32 r) (plc32 r) := by
    intro s
    have hf2 : Fin32 (word32 s r) := by unfold Fin32; rw [word32_mod h31]; exact h
    have e2 := fin32 hf2
    rw [word32_mod h31, word32_neg h31] at e2
    exact e2
  have key : ∀ R, R < 9218868437227405312 → (∀ s, Ieee.double.nearest s (mag32 r) (plc32 r) = word64 s R) → ∀ s w, (convert 23 22 (.float .f32 (word32 s r))).run Tryz.prog w = .ok (.float .f64 (word64 s R)) w := by
    intro R hR he s w
    have h63 : R < 9223372036854775808 := by omega
    have hf : Fin64 (word64 s R) := by unfold Fin64; rw [word64_mod h63]; exact hR
    have hen : FloatKind.f64.encode (.number s (mag32 r) (plc32 r)) = word64 s R := he s
    have hdi : (FloatKind.f64.decode (word64 s R)).isInfinity = false := by
      show (Ieee.double.read (word64 s R)).isInfinity = false
      rw [fin64 hf]
      rfl
    rw [cv32_64]
    simp [Conv.floatToFloat, hdec s, hen, hdi]
  have hpl := plc32_le h
  by_cases hz : mag32 r = 0
  · have hr : r = 0 := by
      unfold mag32 at hz
      split at hz <;> omega
    subst hr
    refine ⟨0, by decide, key 0 (by decide) (fun s => ?_), fun s w => narrow_at (m := 0) (q := -1074) (by decide) (by decide) (by decide) (by decide) ?_ w, .inl ⟨hz, by decide⟩⟩
    · rw [hz]
      unfold Ieee.Format.nearest
      rw [if_pos rfl]
      cases s <;> rfl
    · unfold Ieee.Format.nearest
      rw [if_pos rfl]
      cases s <;> rfl
  · have hm0 : 0 < mag32 r := by omega
    have hm2 := mag32_lt r
    have hn : 8388608 ≤ mag32 r ∨ plc32 r = -149 := by
      unfold mag32 plc32
      split
      · exact .inr rfl
      · exact .inl (by omega)
    obtain ⟨j, hj52, hj0, hj1, _, hjl, hl23⟩ := widen_word false (mag32 r) (plc32 r) hm0 hm2 hpl.1 hpl.2
    have hj29 : 29 ≤ j := by omega
    have hw : ∀ s, Ieee.double.nearest s (mag32 r) (plc32 r) = word64 s ((plc32 r - j + 1075).toNat * 4503599627370496 + (mag32 r * 2 ^ j - 4503599627370496)) := by
      intro s
      obtain ⟨j', _, _, _, hw', hjl', _⟩ := widen_word s (mag32 r) (plc32 r) hm0 hm2 hpl.1 hpl.2
      have : j' = j := by rw [hjl', hjl]
      subst this
      rw [hw']
      cases s <;> rfl
    have hnw : ∀ s, Ieee.single.nearest s (mag32 r * 2 ^ j) (plc32 r - j) = word32 s r := by
      intro s
      rw [narrow_word s (mag32 r) j (plc32 r) hm0 hm2 hpl.1 hpl.2 hn hj0 hj1 hjl hl23]
      rw [rung_back]
      cases s <;> rfl
    obtain ⟨A, hA0, hA1, hA2, hA3⟩ := place_facts hpl.1 hpl.2 hj29 hj52
    rw [hA0] at hw
    obtain ⟨M, hM⟩ : ∃ M, mag32 r * 2 ^ j = M := ⟨_, rfl⟩
    rw [hM] at hw hnw hj0 hj1
    obtain ⟨hmag, hplc, hR⟩ := R_facts hA2 hA3 hA1 hj0 hj1
    refine ⟨_, hR, key _ hR hw, fun s w => narrow_at hR h hmag hplc (hnw s) w, .inr ⟨hm0, j, hj52, by rw [hmag, hM], hplc⟩⟩
end Go.Proofs.YtkkipddgkfidmaaGreatDoor
namespace Go.Proofs.YtkkipddgkfidmaaGreatDoor
open Go.RowKit

theorem enc32N (g : Nat) (h : NaN32 g) (w : World) : Calls Tryz.prog 8 #[.agg #[], .slice none 0 0, .float .f32 g, .int .i64 (-1)] w (App w fun l => l = [34, 78, 97, 78, 34]) := by
  have HN := Lib.hid h
  clear h
  go_enter Tryz.func8, Tryz.ntmps8
  go_upto_region 1 with (fail)
  generalize hW : World.alloc _ _ = W
  have hb : Below w.heap.size w W := by rw [← hW]; exact (Below.refl _ w).alloc (Nat.le_refl _) _
  have HB := Lib.hid hb
  obtain ⟨b, hbn, _, hcv⟩ := nan_widen HN.out W
  have HBN := Lib.hid hbn
  clear hW hb hbn
  go_wp2_with fail
  have hbN : (FloatKind.f64.format.order b b != some .eq) = true := by rw [isNaN_at]; exact decide_eq_true HBN.out
  refine (appNaN 32 b hbN (W.drewN 1)).mono ?_
  rintro e w' h
  obtain ⟨v, l, rfl, ht, ho, hbl⟩ := App.up (HB.out.trans (below_drewN _ W 1)) h
  have R1 := Lib.hid ht
  have R2 := Lib.hid ho
  have R3 := Lib.hid hbl
  clear h ht ho hbl hbN
  go_wp2
  go_ret
  exact ⟨_, l, rfl, R1.out, R2.out, R3.out⟩

theorem lfloat32N (f : Nat) (h : NaN64 f) (w : World) :
    Calls Tryz.prog 4 #[.float .f64 f, .int .i64 32, .int .i64 (-1)] w fun e w' => ∃ l, e = .returned (.string ⟨l.toArray⟩) ∧ l = [34, 78, 97, 78, 34] ∧ Below w.heap.size w w' := by
  obtain ⟨g, hg, _, hcv⟩ := nan_narrow h w
  have HG := Lib.hid hg
  clear h hg
  go_enter Tryz.func4, Tryz.ntmps4
  go_wp2_with fail
  refine (enc32N g HG.out (w.drewN 1)).mono ?_
  rintro e w' h
  obtain ⟨v, l, rfl, ht, ho, hbl⟩ := App.up (below_drewN _ w 1) h
  have hcr := conv_row ho
  have R1 := Lib.hid ht
  have R3 := Lib.hid hbl
  clear h ht ho hbl
  go_wp2
  go_ret
  exact ⟨l, rfl, R1.out, R3.out⟩

theorem ptab_at {w w' : World} (h : PTab w.heap.size w) (hb : Below w.heap.size w w') : PTab w'.heap.size w' := (h.on hb).up hb.size
theorem utab_at {w w' : World} {n : String} {k : IntKind} {zs : List Int} (h : Lib.TabBelow Tryz.prog w.heap.size w n k zs) (hb : Below w.heap.size w w') : Lib.TabBelow Tryz.prog w'.heap.size w' n k zs := fun w'' h'' => h w'' (hb.trans (h''.mono hb.size))

theorem TextOf.len {neg : Bool} {V : Nat} {e : Int} {I F : List UInt8} {X : Option (Bool × List UInt8)} {l : List UInt8} (h : TextOf neg V e I F X l) : l.length ≤ 800 := by
  rw [h.is]
  have h1 := h.lIF
  have h2 : (sg neg).length ≤ 1 := sg_len neg
  have h3 : (dotted F).length ≤ F.length + 1 := by
    unfold dotted
    split <;> simp
  have h4 : (xPart X).length ≤ 5 := by
    match X, h.hX with
    | none, _ => simp [xPart]
    | some (m, x), hx =>
      have := (hx m x rfl).2.2
      simp only [xPart, List.length_cons]
      omega
  simp only [List.length_append]
  omega

theorem nan_facts {b : Nat} (h : ¬ 9218868437227405312 < b % 9223372036854775808) : (FloatKind.f64.format.order b b != some .eq) = false := by
  rw [isNaN_at]
  exact decide_eq_false h

/-- The text that LFloat writes of a float of 64 bits. -/
def Say64 (f : Nat) (l : List UInt8) : Prop := (NaN64 f → l = [34, 78, 97, 78, 34]) ∧ (Inf64 f → l = if neg64 f then [34, 45, 73, 110, 102, 34] else [34, 43, 73, 110, 102, 34]) ∧ (Fin64 f → Txt0 (neg64 f) 4503599627370496 (-1074) (mag64 (f % 9223372036854775808)) (plc64 (f % 9223372036854775808)) l)

theorem abs_zero {b : Nat} (h : (FloatKind.f64.format.order (b % 9223372036854775808) 0 != some .eq) = true) : 0 < mag64 (b % 9223372036854775808) := by
  rcases Nat.eq_zero_or_pos (mag64 (b % 9223372036854775808)) with hz | hz
  · exfalso
    have hr : b % 9223372036854775808 = 0 := by
      unfold mag64 at hz
      split at hz <;> omega
    rw [hr] at h
    exact absurd h (by decide)
  · exact hz

theorem inf_cases {b : Nat} (hb : b < 18446744073709551616) (h : Inf64 b) (bits64 : Int) (w : World) : Calls Tryz.prog 20 #[.slice none 0 0, .float .f64 b, .int .i64 bits64, .int .i64 (-1)] w (App w fun l => l = if neg64 b then [34, 45, 73, 110, 102, 34] else [34, 43, 73, 110, 102, 34]) := by
  have hd : decide (b % 9223372036854775808 = 9218868437227405312) = true := decide_eq_true h
  have hN := nan_facts (b := b) (by unfold Inf64 at h; omega)
  have h1 := isInf1_at (b := b)
  have h2 := isInf2_at hb
  rw [hd, Bool.true_and] at h1 h2
  cases hn : neg64 b
  · rw [hn] at h1
    exact appInf1 bits64 b hN h1 w
  · rw [hn] at h1 h2
    exact appInf2 bits64 b hN h1 h2 w
theorem fin_facts {b : Nat} (hb : b < 18446744073709551616) (h : Fin64 b) : (FloatKind.f64.format.order b b != some .eq) = false ∧ (FloatKind.f64.format.order b 9218868437227405311 == some .gt) = false ∧ (FloatKind.f64.format.order (Op.negFloat .f64 b) 9218868437227405311 == some .gt) = false := by
  unfold Fin64 at h
  have hd : decide (b % 9223372036854775808 = 9218868437227405312) = false := decide_eq_false (by omega)
  refine ⟨nan_facts (by omega), ?_, ?_⟩
  · rw [isInf1_at, hd, Bool.false_and]
  · rw [isInf2_at hb, hd, Bool.false_and]

theorem say64 (f : Nat) (hf : f < 18446744073709551616) (w : World) (hT : PTab w.heap.size w) (hU : Lib.TabBelow Tryz.prog w.heap.size w "internal/strconv.uint64pow10" .u64 Lib.pow10Tab) :
    Calls Tryz.prog 4 #[.float .f64 f, .int .i64 64, .int .i64 (-1)] w fun e w' => ∃ l, e = .returned (.string ⟨l.toArray⟩) ∧ Say64 f l ∧ Below w.heap.size w w' := by
  rcases kinds64 f with h | h | h
  · obtain ⟨h1, h2, h3⟩ := fin_facts hf h
    refine (lfloat64 f (Txt0 (neg64 f) 4503599627370496 (-1074) (mag64 (f % 9223372036854775808)) (plc64 (f % 9223372036854775808))) w ?_).mono ?_
    · intro w' hb
      exact appendF_at 64 f (f % 9223372036854775808) (TxtIs (neg64 f) 4503599627370496 (-1074) (mag64 (f % 9223372036854775808)) (plc64 (f % 9223372036854775808))) _ (0 < mag64 (f % 9223372036854775808)) hf rfl h1 h2 h3 (fun l hl => by
        obtain ⟨V, e, I, F, X, ht, _⟩ := hl
        have := ht.len
        omega) (fun l hl => hl.weak) (fun l A y hl he => hl.clean he) w' rfl (fun hh => abs_zero hh) (fun fmt hfmt => append64 f hf h fmt hfmt w' (ptab_at hT hb) (utab_at hU hb))
    · rintro e w' ⟨l, he, ht, hb⟩
      exact ⟨l, he, ⟨fun hn => by unfold NaN64 at hn; unfold Fin64 at h; omega, fun hn => by unfold Inf64 at hn; unfold Fin64 at h; omega, fun _ => ht⟩, hb⟩
  · refine (lfloat64 f _ w (fun w' _ => inf_cases hf h 64 w')).mono ?_
    rintro e w' ⟨l, he, ht, hb⟩
    exact ⟨l, he, ⟨fun hn => by unfold NaN64 at hn; unfold Inf64 at h; omega, fun _ => ht, fun hn => by unfold Inf64 at h; unfold Fin64 at hn; omega⟩, hb⟩
  · refine (lfloat64 f _ w (fun w' _ => appNaN 64 f (by rw [isNaN_at]; exact decide_eq_true h) w')).mono ?_
    rintro e w' ⟨l, he, ht, hb⟩
    exact ⟨l, he, ⟨fun _ => ht, fun hn => by unfold Inf64 at hn; unfold NaN64 at h; omega, fun hn => by unfold NaN64 at h; unfold Fin64 at hn; omega⟩, hb⟩

/-- The text that LFloat writes of a float of 32 bits that has been widened. -/
theorem say32 (r R : Nat) (s : Bool) (hr : r < 2139095040) (hR : R < 9218868437227405312) (hcv : ∀ s w, (convert 23 22 (.float .f32 (word32 s r))).run Tryz.prog w = .ok (.float .f64 (word64 s R)) w) (hcn : ∀ s w, (convert 22 23 (.float .f64 (word64 s R))).run Tryz.prog w = .ok (.float .f32 (word32 s r)) w)
    (hz : (mag32 r = 0 ∧ mag64 R = 0) ∨ 0 < mag32 r) (w : World) (hT : PTab w.heap.size w) (hU : Lib.TabBelow Tryz.prog w.heap.size w "internal/strconv.uint64pow10" .u64 Lib.pow10Tab) :
    Calls Tryz.prog 4 #[.float .f64 (word64 s R), .int .i64 32, .int .i64 (-1)] w fun e w' => ∃ l, e = .returned (.string ⟨l.toArray⟩) ∧ Txt0 s 8388608 (-149) (mag32 r) (plc32 r) l ∧ Below w.heap.size w w' := by
  have h63 : R < 9223372036854775808 := by omega
  have h31 : r < 2147483648 := by omega
  have hf : word64 s R < 18446744073709551616 := word64_lt h63
  have hF : Fin64 (word64 s R) := by unfold Fin64; rw [word64_mod h63]; exact hR
  have hg : word32 s r < 4294967296 := by unfold word32; split <;> omega
  have hG : Fin32 (word32 s r) := by unfold Fin32; rw [word32_mod h31]; exact hr
  obtain ⟨h1, h2, h3⟩ := fin_facts hf hF
  have hA := append32 (word64 s R) (word32 s r) hg hG (hcn s)
  rw [word32_mod h31, word32_neg h31] at hA
  refine lfloat32 (word64 s R) (word32 s r) (word64 s R) (hcn s) (hcv s) (Txt0 s 8388608 (-149) (mag32 r) (plc32 r)) w ?_
  intro w' hb
  refine appendF32_at 32 (word64 s R) R (TxtIs s 8388608 (-149) (mag32 r) (plc32 r)) _ (0 < mag32 r) hf (word64_mod h63) h1 h2 h3 (fun l hl => by
    obtain ⟨V, e, I, F, X, ht, _⟩ := hl
    have := ht.len
    omega) (fun l hl => hl.weak) (fun l A y hl he => hl.clean he) w' rfl (word32 false r) (fun w => hcn false w) (fun hh => ?_) (fun fmt hfmt => hA fmt hfmt w' (ptab_at hT hb) (utab_at hU hb))
  rcases hz with ⟨_, hz⟩ | hz
  · exfalso
    have e := abs_zero (b := R) (by rw [Nat.mod_eq_of_lt h63]; exact hh)
    rw [Nat.mod_eq_of_lt h63] at e
    omega
  · exact hz
end Go.Proofs.YtkkipddgkfidmaaGreatDoor
