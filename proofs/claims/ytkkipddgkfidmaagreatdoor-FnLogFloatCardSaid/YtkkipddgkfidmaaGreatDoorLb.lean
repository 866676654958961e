/- What the law needs of a float: what LFloat writes of it, and that FloatNear says yes. No conditions beyond each theorem's own. The law's own walk: FnLogFloat says true of every float. Under the tables' values. -/
import Derived.Test.YtkkipddgkfidmaaGreatDoorKh
import Derived.Test.YtkkipddgkfidmaaGreatDoorJe
import Derived.Test.YtkkipddgkfidmaaGreatDoorVg
namespace Go.Proofs.YtkkipddgkfidmaaGreatDoor
open Go.RowKit

def nanT : List UInt8 := [34, 78, 97, 78, 34]
def infT (neg : Bool) : List UInt8 := if neg then [34, 45, 73, 110, 102, 34] else [34, 43, 73, 110, 102, 34]

/-- What is written of a float: no number, an infinity, or a number's text that FloatNear takes. -/
def SayS (f : Nat) (short : Bool) (l : List UInt8) : Prop := (NaN64 f ∧ l = nanT) ∨ (Inf64 f ∧ l = infT (neg64 f)) ∨ (Fin64 f ∧ ∃ V e I F X, TextOf (neg64 f) V e I F X l ∧ ∀ w, Calls Tryz.prog 7 #[.string ⟨l.toArray⟩, .float .f64 f, .bool short] w fun r w' => r = .returned (.bool true) ∧ Below w.heap.size w w')

theorem txt_near64 {f : Nat} {l : List UInt8} (hf : f < 18446744073709551616) (h : Fin64 f) (ht : Txt0 (neg64 f) 4503599627370496 (-1074) (mag64 (f % 9223372036854775808)) (plc64 (f % 9223372036854775808)) l) : SayS f false l := by
  obtain ⟨V, e, I, F, X, ht, hz, hn⟩ := ht
  refine .inr (.inr ⟨h, V, e, I, F, X, ht, fun w => ?_⟩)
  have hpl := plc64_le h
  have hmn : 4503599627370496 ≤ mag64 (f % 9223372036854775808) ∨ plc64 (f % 9223372036854775808) = -1074 := by
    unfold mag64 plc64
    split
    · exact .inr rfl
    · exact .inl (by omega)
  rcases Nat.eq_zero_or_pos (mag64 (f % 9223372036854775808)) with h0 | h0
  · exact fnearZ64 (neg64 f) V e I F X l ⟨l.toArray⟩ rfl ht f hf h rfl h0 (hz h0) w
  · exact fnear64 (neg64 f) V e I F X l ⟨l.toArray⟩ rfl ht f hf h rfl (mag64 (f % 9223372036854775808)) 0 (plc64 (f % 9223372036854775808)) (by simp) (by simp) h0 (mag64_lt _) hpl.1 hpl.2 hmn (by decide) (hn h0) w

theorem txt_near32 {r R : Nat} {s : Bool} {l : List UInt8} (hr : r < 2139095040) (hR : R < 9218868437227405312) (hrel : (mag32 r = 0 ∧ mag64 R = 0) ∨ (0 < mag32 r ∧ ∃ j : Nat, j ≤ 52 ∧ mag64 R = mag32 r * 2 ^ j ∧ plc64 R = plc32 r - j)) (ht : Txt0 s 8388608 (-149) (mag32 r) (plc32 r) l) : SayS (word64 s R) true l := by
  have h63 : R < 9223372036854775808 := by omega
  have hf : word64 s R < 18446744073709551616 := word64_lt h63
  have hF : Fin64 (word64 s R) := by unfold Fin64; rw [word64_mod h63]; exact hR
  have hng : neg64 (word64 s R) = s := word64_neg h63
  have hmd : word64 s R % 9223372036854775808 = R := word64_mod h63
  obtain ⟨V, e, I, F, X, ht, hz, hn⟩ := ht
  refine .inr (.inr ⟨hF, V, e, I, F, X, by rw [hng]; exact ht, fun w => ?_⟩)
  have hpl := plc32_le hr
  have hmn : 8388608 ≤ mag32 r ∨ plc32 r = -149 := by
    unfold mag32 plc32
    split
    · exact .inr rfl
    · exact .inl (by omega)
  rcases hrel with ⟨h0, h1⟩ | ⟨h0, j, hj, h1, h2⟩
  · exact fnearZ32 s V e I F X l ⟨l.toArray⟩ rfl ht _ hf hF hng (by rw [hmd]; exact h1) (hz h0) w
  · exact fnear32 s V e I F X l ⟨l.toArray⟩ rfl ht _ hf hF hng (mag32 r) j (plc32 r) (by rw [hmd]; exact h1) (by rw [hmd]; exact h2) h0 (mag32_lt _) hpl.1 hpl.2 hmn hj (hn h0) w

/-- LFloat's call, for the law. -/
def LF (f : Nat) (bits64 : Int) (short : Bool) (w : World) : Prop := f < 18446744073709551616 ∧ Calls Tryz.prog 4 #[.float .f64 f, .int .i64 bits64, .int .i64 (-1)] w fun e w' => ∃ l, e = .returned (.string ⟨l.toArray⟩) ∧ SayS f short l ∧ Below w.heap.size w w'

theorem lf64 (f : Nat) (hf : f < 18446744073709551616) (w : World) (hT : PTab w.heap.size w) (hU : Lib.TabBelow Tryz.prog w.heap.size w "internal/strconv.uint64pow10" .u64 Lib.pow10Tab) : LF f 64 false w := by
  refine ⟨hf, (say64 f hf w hT hU).mono ?_⟩
  rintro e w' ⟨l, he, ⟨h1, h2, h3⟩, hb⟩
  refine ⟨l, he, ?_, hb⟩
  rcases kinds64 f with h | h | h
  · exact txt_near64 hf h (h3 h)
  · exact .inr (.inl ⟨h, h2 h⟩)
  · exact .inl ⟨h, h1 h⟩

theorem lf32N (f : Nat) (hf : f < 18446744073709551616) (h : NaN64 f) (w : World) : LF f 32 true w := by
  refine ⟨hf, (lfloat32N f h w).mono ?_⟩
  rintro e w' ⟨l, he, hl, hb⟩
  exact ⟨l, he, .inl ⟨h, hl⟩, hb⟩

theorem lf32I (f : Nat) (hf : f < 18446744073709551616) (h : Inf64 f) (w : World) : LF f 32 true w := by
  obtain ⟨g, hg, hg32, hng, hcv⟩ := inf_narrow h
  obtain ⟨b, hbI, hb64, hnb, hcw⟩ := inf_widen hg
  have hbf : b = f := by
    have e : neg64 b = neg64 f := by rw [hnb, hng]
    unfold Inf64 at h hbI
    unfold neg64 at e
    rw [Bool.eq_iff_iff, beq_iff_eq, beq_iff_eq] at e
    omega
  subst hbf
  refine ⟨hf, (lfloat32 b g b hcv hcw _ w (fun w' _ => inf_cases hf h 32 w')).mono ?_⟩
  rintro e w' ⟨l, he, hl, hb⟩
  exact ⟨l, he, .inr (.inl ⟨h, hl⟩), hb⟩

theorem lf32F (r R : Nat) (s : Bool) (hr : r < 2139095040) (hR : R < 9218868437227405312) (hcv : ∀ s w, (convert 23 22 (.float .f32 (word32 s r))).run Tryz.prog w = .ok (.float .f64 (word64 s R)) w) (hcn : ∀ s w, (convert 22 23 (.float .f64 (word64 s R))).run Tryz.prog w = .ok (.float .f32 (word32 s r)) w)
    (hrel : (mag32 r = 0 ∧ mag64 R = 0) ∨ (0 < mag32 r ∧ ∃ j : Nat, j ≤ 52 ∧ mag64 R = mag32 r * 2 ^ j ∧ plc64 R = plc32 r - j)) (w : World) (hT : PTab w.heap.size w) (hU : Lib.TabBelow Tryz.prog w.heap.size w "internal/strconv.uint64pow10" .u64 Lib.pow10Tab) : LF (word64 s R) 32 true w := by
  refine ⟨word64_lt (by omega), (say32 r R s hr hR hcv hcn (hrel.imp id (fun h => h.1)) w hT hU).mono ?_⟩
  rintro e w' ⟨l, he, hl, hb⟩
  exact ⟨l, he, txt_near32 hr hR hrel hl, hb⟩

/-- Any float narrowed and widened: some float that LFloat writes as it should. -/
theorem lf32 (f : Nat) (w : World) (hT : PTab w.heap.size w) (hU : Lib.TabBelow Tryz.prog w.heap.size w "internal/strconv.uint64pow10" .u64 Lib.pow10Tab) :
    ∃ g b n m, (convert 22 23 (.float .f64 f)).run Tryz.prog w = .ok (.float .f32 g) (w.drewN n) ∧ (convert 23 22 (.float .f32 g)).run Tryz.prog (w.drewN n) = .ok (.float .f64 b) ((w.drewN n).drewN m) ∧ LF b 32 true ((w.drewN n).drewN m) := by
  obtain ⟨g, n, hg, h1⟩ := narrow_any f w
  have hT' : ∀ k, PTab ((w.drewN n).drewN k).heap.size ((w.drewN n).drewN k) := fun k => ptab_at hT ((below_drewN _ w n).trans (below_drewN _ _ k))
  have hU' : ∀ k, Lib.TabBelow Tryz.prog ((w.drewN n).drewN k).heap.size ((w.drewN n).drewN k) "internal/strconv.uint64pow10" .u64 Lib.pow10Tab := fun k => utab_at hU ((below_drewN _ w n).trans (below_drewN _ _ k))
  rcases kinds32 g with h | h | h
  · obtain ⟨R, hR, hcv, hcn, hrel⟩ := fin_widen (r := g % 2147483648) h
    have hw := word32_is hg
    refine ⟨g, word64 (neg32 g) R, n, 0, h1, ?_, lf32F (g % 2147483648) R (neg32 g) h hR hcv hcn hrel _ (hT' 0) (hU' 0)⟩
    have := hcv (neg32 g) (w.drewN n)
    rw [hw] at this
    exact this
  · obtain ⟨b, hbI, hb64, _, hcw⟩ := inf_widen h
    exact ⟨g, b, n, 0, h1, hcw _, lf32I b hb64 hbI _⟩
  · obtain ⟨b, hbN, hb64, hcw⟩ := nan_widen h (w.drewN n)
    exact ⟨g, b, n, 1, h1, hcw, lf32N b hb64 hbN _⟩
end Go.Proofs.YtkkipddgkfidmaaGreatDoor
namespace Go.Proofs.YtkkipddgkfidmaaGreatDoor
open Go.RowKit

theorem sub_fin_run {b : Nat} (h : Fin64 b) (w : World) : (binOp .sub 22 (.float .f64 b) (.float .f64 b)).run Tryz.prog w = .ok (.float .f64 0) w :=
  run_float_arith w .sub 22 .f64 b b 0 (sub_fin h)
theorem sub_inf_run {b : Nat} (h : Inf64 b) (w : World) : ∃ z, NaN64 z ∧ (binOp .sub 22 (.float .f64 b) (.float .f64 b)).run Tryz.prog w = .ok (.float .f64 z) (w.drewN 1) := by
  have e : FloatKind.f64.format.sub b b = none := sub_inf h
  refine ⟨(Question.nanBits .f64 b b).cut (w.tape w.drawn (.nanBits .f64 b b)), (nan_cut64 _).1, ?_⟩
  simp [binOp, Op.floatArith, e, Question.forced]
  rfl

set_option maxRecDepth 100000 in
set_option maxHeartbeats 8000000 in
theorem flaw (f : Nat) (hf : f < 18446744073709551616) (short : Bool) (w : World) (hT : PTab w.heap.size w) (hU : Lib.TabBelow Tryz.prog w.heap.size w "internal/strconv.uint64pow10" .u64 Lib.pow10Tab) :
    Calls Tryz.prog 3 #[.float .f64 f, .bool short] w fun r w' => r = .returned (.bool true) ∧ Below w.heap.size w w' := by
  have L64 := Lib.hid (lf64 f hf w hT hU)
  obtain ⟨g, b32, n, m, h1, h2, hL32⟩ := lf32 f w hT hU
  have L32 := Lib.hid (show LF b32 32 true (w.drewN (n + m)) by simpa using hL32)
  have C1 := Lib.hid h1
  have C2 := Lib.hid h2
  clear hf hT hU h1 h2 hL32
  go_enter Tryz.func3, Tryz.ntmps3
  go_upto_if 9 with (fail)
  go_cut [0, 5] from 10 to 12 (fun s0 s5 wx => ∃ (b : Nat) (bits64 : Int), s0 = .float .f64 b ∧ s5 = .int .i64 bits64 ∧ LF b bits64 short wx ∧ Below w.heap.size w wx)
  case first =>
    cases short
    · go_wp2_with fail
      go_meet
      exact ⟨f, 64, rfl, rfl, L64.out, Below.refl _ _⟩
    · have h1 := C1.out
      have h2 := C2.out
      go_wp2_with fail
      go_meet
      exact ⟨b32, 32, rfl, rfl, L32.out, below_drewN _ w (n + m)⟩
  case rest =>
    obtain ⟨b, bits64, rfl, rfl, ⟨hb64, hL⟩, hb⟩ := hcut
    have HL := Lib.hid hL
    have HB := Lib.hid hb
    clear L64 L32 C1 C2 hL hb hb64
    go_wp2_with fail
    refine HL.out.mono ?_
    rintro r w1 ⟨l, rfl, hS, hb1⟩
    have B1 := Lib.hid (HB.out.trans (hb1.mono HB.out.size))
    clear hb1 HL
    rcases hS with ⟨hk, rfl⟩ | ⟨hk, hl⟩ | ⟨hk, V, e, I, F, X, ht, hN⟩
    · have ho : (FloatKind.f64.format.order b b != some .eq) = true := by rw [isNaN_at]; exact decide_eq_true hk
      clear hk
      unfold nanT
      go_wp2_with fail
      refine (awake w1).mono ?_
      rintro r w2 ⟨rfl, m, rfl⟩
      go_wp2
      go_ret
      exact ⟨rfl, B1.out.trans (below_drewN _ w1 m)⟩
    · have ho : (FloatKind.f64.format.order b b != some .eq) = false := nan_facts (by unfold Inf64 at hk; omega)
      obtain ⟨z, hz, hsub⟩ := sub_inf_run hk w1
      have hz0 : (FloatKind.f64.format.order z 0 != some .eq) = true := by
        show (Ieee.Format.order Ieee.double z 0 != some .eq) = true
        rw [order_nan hz]
        rfl
      have hgt : (FloatKind.f64.format.order b 0 == some .gt) = !neg64 b := by
        show (Ieee.Format.order Ieee.double b 0 == some .gt) = _
        rw [inf_gt0 hk]
        cases neg64 b <;> rfl
      subst hl
      unfold infT
      cases hng : neg64 b
      · rw [hng] at hgt
        have hgt' : (FloatKind.f64.format.order b 0 == some .gt) = true := hgt
        clear hk hz hgt hng
        simp only [Bool.false_eq_true, if_false]
        go_wp2_with fail
        refine (awake _).mono ?_
        rintro r w2 ⟨rfl, m, rfl⟩
        go_wp2
        go_ret
        exact ⟨rfl, B1.out.trans (below_drewN _ w1 (1 + m))⟩
      · rw [hng] at hgt
        have hgt' : (FloatKind.f64.format.order b 0 == some .gt) = false := hgt
        clear hk hz hgt hng
        simp only [if_true]
        go_wp2_with fail
        refine (awake _).mono ?_
        rintro r w2 ⟨rfl, m, rfl⟩
        go_wp2
        go_ret
        exact ⟨rfl, B1.out.trans (below_drewN _ w1 (1 + m))⟩
    · have ho := (nan_facts (b := b) (by unfold Fin64 at hk; omega))
      have hsub := sub_fin_run hk
      have hz0 : (FloatKind.f64.format.order 0 0 != some .eq) = false := by decide
      obtain ⟨s, hs⟩ : ∃ s : ByteArray, (⟨l.toArray⟩ : ByteArray) = s := ⟨_, rfl⟩
      have hsl : s.data.toList = l := by rw [← hs]
      rw [hs] at hN ⊢
      have NA := Lib.hid (num_at ht hsl)
      have HN := Lib.hid hN
      clear hk hN hs hsl ht
      go_wp2_with fail
      refine (fJRead s _ _ _ _ _ X NA.out w1).mono ?_
      rintro r w2 ⟨⟨t, rfl⟩, hb2⟩
      have B2 := Lib.hid (B1.out.trans (hb2.mono B1.out.size))
      clear hb2
      go_upto_region 12 with (fail)
      generalize hW : World.alloc _ _ = W
      obtain ⟨G, hG⟩ : ∃ G, w2.heap.size = G := ⟨_, rfl⟩
      have hbl : W.heap[G]? = some (.cells #[.int .i64 3, .string t, .slice none 0 0, .slice none 0 0] 29 (0, 0)) := by
        rw [← hW, ← hG]
        exact heap_alloc_new w2 _
      have hbW : Below w.heap.size w W := by
        rw [← hW]
        exact B2.out.alloc B2.out.size _
      rw [hG]
      have hc : W.cell? ⟨G, 0, none⟩ = some (.int .i64 3) := by rw [cell_at hbl]; rfl
      have BW := Lib.hid hbW
      clear hW hG hbl hbW
      go_wp2_with fail
      refine (HN.out W).mono ?_
      rintro r w3 ⟨rfl, hb3⟩
      have B3 := Lib.hid (BW.out.trans (hb3.mono BW.out.size))
      clear hb3 hc
      go_wp2_with fail
      refine (awake w3).mono ?_
      rintro r w4 ⟨rfl, m, rfl⟩
      go_wp2
      go_ret
      exact ⟨rfl, B3.out.trans (below_drewN _ w3 m)⟩
end Go.Proofs.YtkkipddgkfidmaaGreatDoor
