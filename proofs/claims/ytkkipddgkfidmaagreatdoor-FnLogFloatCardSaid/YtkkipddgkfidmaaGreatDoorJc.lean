/- The contract of the reader's number. No conditions beyond each theorem's own. -/
import Derived.Test.YtkkipddgkfidmaaGreatDoorJb
import Derived.Test.YtkkipddgkfidmaaGreatDoorQn
import Derived.Deep.Cut
import Derived.Deep.CutRange
import Derived.Deep.RegionWith
import Derived.Laws.ResultCell
import Derived.WalkLawsBesides
namespace Go.Proofs.YtkkipddgkfidmaaGreatDoor
open Go.RowKit

theorem load29 {W : World} {g : Nat} {a b c d : Value} (hb : W.heap[g]? = some (.cells #[a, b, c, d] 29 (0, 0))) : (loadVar 29 ⟨g, 0, none⟩).run Tryz.prog W = .ok (.agg #[a, b, c, d]) W := by
  have e0 := cell_at (j := 0) hb
  have e1 := cell_at (j := 1) hb
  have e2 := cell_at (j := 2) hb
  have e4 := cell_at (j := 3) hb
  simp only [List.getElem?_toArray, List.getElem?_cons_zero, List.getElem?_cons_succ] at e0 e1 e2 e4
  go_simp

theorem rd0 {j : Nat} {s : ByteArray} {at' : Nat} {deep : Int} {w : World} (hr : Rd j s at' deep w) : w.cell? ⟨j, 0, none⟩ = some (.string s) := by rw [cell_at hr]; rfl
theorem rd1 {j : Nat} {s : ByteArray} {at' : Nat} {deep : Int} {w : World} (hr : Rd j s at' deep w) : w.cell? ⟨j, 1, none⟩ = some (.int .i64 (at' : Int)) := by rw [cell_at hr]; rfl
theorem ne_chr {c d : UInt8} (h : c ≠ d) : ((c.toNat : Int) == (d.toNat : Int)) = false := by
  rw [beq_eq_false_iff_ne]
  intro e
  exact h (UInt8.toNat_inj.1 (by omega))

/-- Block j may have changed, and new blocks may have come. -/
def Old (j : Nat) (w w' : World) : Prop := Below j w w' ∧ ∀ k, k ≠ j → k < w.heap.size → w'.heap[k]? = w.heap[k]?
theorem Old.of_only {j : Nat} {w w' : World} (h : Only j w w') : Old j w w' := ⟨h.1, fun k hk _ => h.2.2 k hk⟩
theorem Old.trans {j : Nat} {a b c : World} (h : Old j a b) (k : Old j b c) : Old j a c := ⟨h.1.trans k.1, fun i hi hl => (k.2 i hi (Nat.lt_of_lt_of_le hl h.1.size)).trans (h.2 i hi hl)⟩

theorem number_end {j g p : Nat} {s tx : ByteArray} {deep : Int} {w W wc W2 : World} (hgj : g ≠ j) (hg : W.heap[g]? = some (.cells #[.int .i64 0, .string ⟨#[]⟩, .slice none 0 0, .slice none 0 0] 29 (0, 0))) (hr : Rd j s p deep wc) (ho : Only j W wc) (hb : Below j w W)
    (h2 : ((((wc.setCell ⟨g, 0, none⟩ (.int .i64 3)).setCell ⟨g, 1, none⟩ (.string tx)).setCell ⟨g, 2, none⟩ (.slice none 0 0)).setCell ⟨g, 3, none⟩ (.slice none 0 0)).drew = W2) (hjg : j < g) (hgs : w.heap.size = g) (hWw : ∀ k, k < g → W.heap[k]? = w.heap[k]?) :
    W2.heap[g]? = some (.cells #[.int .i64 3, .string tx, .slice none 0 0, .slice none 0 0] 29 (0, 0)) ∧ Rd j s p deep W2 ∧ Old j w W2 := by
  subst h2
  have h0 := (ho.2.2 g hgj).trans hg
  have h1 := setCell_block h0 0 (.int .i64 3)
  have h2 := setCell_block h1 1 (.string tx)
  have h3 := setCell_block h2 2 (.slice none 0 0)
  have h4 := setCell_block h3 3 (.slice none 0 0)
  refine ⟨h4, ?_, ?_⟩
  · show Rd j s p deep _
    unfold Rd
    show ((((wc.setCell ⟨g, 0, none⟩ (.int .i64 3)).setCell ⟨g, 1, none⟩ (.string tx)).setCell ⟨g, 2, none⟩ (.slice none 0 0)).setCell ⟨g, 3, none⟩ (.slice none 0 0)).heap[j]? = _
    rw [Below.heap_setCell _ _ _ _ hgj.symm, Below.heap_setCell _ _ _ _ hgj.symm, Below.heap_setCell _ _ _ _ hgj.symm, Below.heap_setCell _ _ _ _ hgj.symm]
    exact hr
  · have hle : j ≤ g := Nat.le_of_lt hjg
    refine ⟨?_, fun k hk hkl => ?_⟩
    rotate_left
    · rw [hgs] at hkl
      have hkg : k ≠ g := by omega
      show ((((wc.setCell ⟨g, 0, none⟩ (.int .i64 3)).setCell ⟨g, 1, none⟩ (.string tx)).setCell ⟨g, 2, none⟩ (.slice none 0 0)).setCell ⟨g, 3, none⟩ (.slice none 0 0)).heap[k]? = _
      rw [Below.heap_setCell _ _ _ _ hkg, Below.heap_setCell _ _ _ _ hkg, Below.heap_setCell _ _ _ _ hkg, Below.heap_setCell _ _ _ _ hkg, ho.2.2 k hk, hWw k hkl]
    exact (((((hb.trans ho.1).setCell (p := ⟨g, 0, none⟩) hle _).setCell (p := ⟨g, 1, none⟩) hle _).setCell (p := ⟨g, 2, none⟩) hle _).setCell (p := ⟨g, 3, none⟩) hle _).drew

set_option maxRecDepth 100000 in
set_option maxHeartbeats 8000000 in
theorem fnumber (s : ByteArray) (neg : Bool) (p1 p2 p3 nF : Nat) (X : Option (Bool × List UInt8)) (hN : NumAt s neg p1 p2 p3 nF X) (j : Nat) (deep : Int) (w : World) (hr : Rd j s 0 deep w) :
    Calls Tryz.prog 27 #[.pointer (some ⟨j, 0, none⟩)] w fun r w' => (∃ t, r = .returned (.tuple #[.agg #[.int .i64 3, .string t, .slice none 0 0, .slice none 0 0], .bool true])) ∧ Rd j s s.size deep w' ∧ Old j w w' := by
  have hjw : j < w.heap.size := lt_of_block hr
  have hsz := hN.sz
  have hp := And.intro hN.dI (And.intro hN.le2 hN.le3)
  obtain ⟨hp12, hp23, hp3s⟩ := hp
  have HR := Lib.hid hr
  have HN := Lib.hid hN
  clear hr hN
  go_enter Tryz.func27, Tryz.ntmps27
  go_upto_region 1 with (fail)
  generalize hW : World.alloc _ _ = W
  have hg : W.heap[w.heap.size]? = some (.cells #[.int .i64 0, .string ⟨#[]⟩, .slice none 0 0, .slice none 0 0] 29 (0, 0)) := by rw [← hW]; exact heap_alloc_new w _
  have hrW : Rd j s 0 deep W := by rw [← hW]; unfold Rd; rw [Below.heap_alloc _ _ _ hjw]; exact HR.out
  have hbW : Below j w W := by rw [← hW]; exact (Below.refl j w).alloc (Nat.le_of_lt hjw) _
  have hWw : ∀ k, k < w.heap.size → W.heap[k]? = w.heap[k]? := fun k hk => by rw [← hW]; exact Below.heap_alloc _ _ _ hk
  obtain ⟨g, hgd⟩ : ∃ g, w.heap.size = g := ⟨_, rfl⟩
  rw [hgd] at hg hjw hWw ⊢
  have HWW := Lib.hid hWw
  have HGD := Lib.hid hgd
  have hgj : g ≠ j := by omega
  have HG := Lib.hid hg
  have HRW := Lib.hid hrW
  have HB := Lib.hid hbW
  clear hW hg hrW hbW hgd hWw HR
  have d0 := rd0 HRW.out
  have d1 := rd1 HRW.out
  go_upto_region 2 with (fail)
  go_cut [] from 11 to 12 (fun wx => Rd j s p1 deep wx ∧ Only j W wx)
  case first =>
    cases neg
    · obtain ⟨e, h0⟩ := HN.out.n1 rfl
      go_wp2_with fail
      refine (hasN j s ⟨#[45]⟩ 0 deep (Nat.zero_le _) (by omega) (by decide) (by decide) 45 rfl h0 W HRW.out).mono ?_
      rintro e' w1 ⟨rfl, h1, h2⟩
      go_wp2_with fail
      go_meet
      exact ⟨by rw [e]; exact h1, h2⟩
    · obtain ⟨e, h0, hc⟩ := HN.out.n0 rfl
      go_wp2_with fail
      refine (hasY j s 45 0 deep h0 hc (by omega) W HRW.out).mono ?_
      rintro e' w1 ⟨rfl, h1, h2⟩
      go_wp2_with fail
      go_meet
      exact ⟨by rw [e]; exact h1, h2⟩
  case rest =>
    obtain ⟨h1, h2⟩ := hcut
    have e1 := rd1 h1
    have R1 := Lib.hid h1
    have R2 := Lib.hid h2
    clear h1 h2 d0 d1
    obtain ⟨n, hn⟩ : ∃ n, p2 = p1 + n := ⟨p2 - p1, by omega⟩
    go_wp2_with fail
    refine (fdigitsO j s p1 n deep (by omega) (by omega) (fun i h a b => HN.out.digI i h a (by omega)) (by rw [← hn]; exact HN.out.endI) wc R1.out).mono ?_
    rintro e' w1 ⟨rfl, h1, h2⟩
    rw [← hn] at h1
    have S1 := Lib.hid h1
    have S2 := Lib.hid (R2.out.trans h2)
    have HNN := Lib.hid hn
    have e0 := rd0 h1
    clear h1 h2 e1 R1 R2 hn
    have hn0 : ((n : Int) == 0) = false := by rw [beq_eq_false_iff_ne]; have := HNN.out; omega
    go_upto_region 5 with (fail)
    go_cut [33] from 19 to 33 (fun s33 wx => s33 = .bool false ∧ wx = w1)
    case first =>
      rcases Nat.lt_or_ge 1 n with hn1 | hn1
      rotate_left
      · have hgt : ¬ (n : Int) > 1 := by omega
        have hgtb : decide ((n : Int) > 1) = false := decide_eq_false hgt
        go_wp2_with fail
        go_meet
        exact ⟨rfl, rfl⟩
      · have hgt : (n : Int) > 1 := by have := HNN.out; omega
        have hps : p1 < s.size := by have := HNN.out; omega
        have hps' : (p1 : Int) < (s.size : Int) := by omega
        have hld := HN.out.lead (by have := HNN.out; omega) hps
        have h48 : ((s[p1].toNat : Int) == 48) = false := by rw [beq_eq_false_iff_ne]; omega
        clear hld
        go_wp2_with fail
        go_meet
        exact ⟨rfl, rfl⟩
    case rest =>
      obtain ⟨rfl, rfl⟩ := hcut
      clear e0 hn0
      go_upto_region 7 with (fail)
      go_cut [41] from 35 to 41 (fun s41 wx => s41 = .bool false ∧ Rd j s p3 deep wx ∧ Only j W wx)
      case first =>
        rcases Nat.eq_zero_or_pos nF with hF | hF
        · obtain ⟨e3, hne⟩ := HN.out.noF hF
          go_wp2_with fail
          refine (hasN j s ⟨#[46]⟩ p2 deep (by omega) (by omega) (by decide) (by decide) 46 rfl hne wc S1.out).mono ?_
          rintro e' w2 ⟨rfl, h1, h2⟩
          go_wp2_with fail
          go_meet
          exact ⟨rfl, by rw [e3]; exact h1, S2.out.trans h2⟩
        · obtain ⟨e3, h46, hc⟩ := HN.out.yesF hF
          go_wp2_with fail
          refine (hasY j s 46 p2 deep h46 hc (by omega) wc S1.out).mono ?_
          rintro e' w2 ⟨rfl, h1, h2⟩
          have T1 := Lib.hid h1
          have T2 := Lib.hid (S2.out.trans h2)
          have E3 := Lib.hid e3
          have hnF0 : ((nF : Int) == 0) = false := by rw [beq_eq_false_iff_ne]; omega
          clear h1 h2 e3
          go_wp2_with fail
          refine (fdigitsO j s (p2 + 1) nF deep (by have := E3.out; omega) (by omega) (fun i h a b => HN.out.digF i h a (by have := E3.out; omega)) (by rw [← E3.out]; exact HN.out.endF) w2 T1.out).mono ?_
          rintro e' w3 ⟨rfl, h1, h2⟩
          go_wp2_with fail
          go_meet
          exact ⟨rfl, by rw [E3.out]; exact h1, T2.out.trans h2⟩
      case rest =>
        obtain ⟨rfl, h1, h2⟩ := hcut
        have T1 := Lib.hid h1
        have T2 := Lib.hid h2
        clear h1 h2 S1 S2
        match X, HN with
        | none, HN =>
          have e3 := HN.out.noX rfl
          go_upto_region 9 with (fail)
          go_cut [48] from 43 to 48 (fun s48 wx => s48 = .bool false ∧ Rd j s p3 deep wx ∧ Only j W wx)
          case first =>
            go_wp2_with fail
            refine (hasN j s ⟨#[101]⟩ p3 deep (by omega) (by omega) (by decide) (by decide) 101 rfl (fun h => absurd h (by omega)) wc T1.out).mono ?_
            rintro e' w2 ⟨rfl, h1, h2⟩
            have U1 := Lib.hid h1
            have U2 := Lib.hid (T2.out.trans h2)
            clear h1 h2
            go_wp2_with fail
            refine (hasN j s ⟨#[69]⟩ p3 deep (by omega) (by omega) (by decide) (by decide) 69 rfl (fun h => absurd h (by omega)) w2 U1.out).mono ?_
            rintro e' w3 ⟨rfl, h1, h2⟩
            go_wp2_with fail
            go_meet
            exact ⟨rfl, h1, U2.out.trans h2⟩
          case rest =>
            obtain ⟨rfl, h1, h2⟩ := hcut
            have d0 := rd0 h1
            have d1 := rd1 h1
            have U1 := Lib.hid h1
            have U2 := Lib.hid h2
            have E3 := Lib.hid e3
            have hgb := (h2.2.2 g hgj).trans HG.out
            have f0 : wc.frozen? ⟨g, 0, none⟩ = false := free_at hgb
            have f1 : wc.frozen? ⟨g, 1, none⟩ = false := free_at hgb
            have f2 : wc.frozen? ⟨g, 2, none⟩ = false := free_at hgb
            have f3 : wc.frozen? ⟨g, 3, none⟩ = false := free_at hgb
            have g0 : wc.cell? ⟨g, 0, none⟩ = some (.int .i64 0) := by rw [cell_at hgb]; rfl
            have g1 : wc.cell? ⟨g, 1, none⟩ = some (.string ⟨#[]⟩) := by rw [cell_at hgb]; rfl
            have g2 : wc.cell? ⟨g, 2, none⟩ = some (.slice none 0 0) := by rw [cell_at hgb]; rfl
            have g3 : wc.cell? ⟨g, 3, none⟩ = some (.slice none 0 0) := by rw [cell_at hgb]; rfl
            clear hgb
            clear h1 h2 T1 T2 e3
            have hp3z : (p3 : Int) ≤ (s.size : Int) := by omega
            go_upto_region 14 with (fail)
            go_region
            all_goals
              obtain ⟨tx, htx⟩ : ∃ tx, s.extract 0 p3 = tx := ⟨_, rfl⟩
              rw [htx]
              generalize hW2 : World.drew _ = W2
              have hfin := number_end hgj HG.out U1.out U2.out HB.out hW2 (by omega) HGD.out HWW.out
              have e0 := cell_at (j := 0) hfin.1
              have e1 := cell_at (j := 1) hfin.1
              have e2 := cell_at (j := 2) hfin.1
              have e4 := cell_at (j := 3) hfin.1
              have HFI := Lib.hid hfin
              simp only [List.getElem?_toArray, List.getElem?_cons_zero, List.getElem?_cons_succ] at e0 e1 e2 e4
              clear hW2 hfin d0 d1 g0 g1 g2 g3 f0 f1 f2 f3
              go_wp2
              (try simp only [Exit.inBlock, Exit.then])
              refine bodyPost_ret (v := .tuple #[.agg #[.int .i64 3, .string tx, .slice none 0 0, .slice none 0 0], .bool true]) ?_ rfl ⟨⟨tx, rfl⟩, by rw [← E3.out]; exact HFI.out.2.1, HFI.out.2.2⟩
              have hld := load29 HFI.out.1
              rw [results_cell_tmp rfl]
              simp [asAddr, Result.andThen, hld]
        | some (m, x), HN =>
          obtain ⟨hx0, hxs, hx1, hxe, hxm⟩ := HN.out.yesX m x rfl
          have HXS := Lib.hid hxs
          have HXM := Lib.hid hxm
          have HXE := Lib.hid hxe
          have hn0 : ((x.length : Int) == 0) = false := by rw [beq_eq_false_iff_ne]; omega
          clear hxs hxm hxe
          go_upto_region 9 with (fail)
          go_cut [48] from 43 to 48 (fun s48 wx => s48 = .bool true ∧ Rd j s (p3 + 1) deep wx ∧ Only j W wx)
          case first =>
            go_wp2_with fail
            refine (hasY j s 101 p3 deep (by omega) HXE.out (by omega) wc T1.out).mono ?_
            rintro e' w2 ⟨rfl, h1, h2⟩
            go_wp2_with fail
            go_meet
            exact ⟨rfl, h1, T2.out.trans h2⟩
          case rest =>
            obtain ⟨rfl, h1, h2⟩ := hcut
            have U1 := Lib.hid h1
            have U2 := Lib.hid h2
            clear h1 h2 T1 T2
            cases m
            · go_wp2_with fail
              refine (hasY j s 43 (p3 + 1) deep hx1 HXM.out (by omega) wc U1.out).mono ?_
              rintro e' w2 ⟨rfl, h1, h2⟩
              have V1 := Lib.hid h1
              have V2 := Lib.hid (U2.out.trans h2)
              clear h1 h2 U1 U2
              go_wp2_with fail
              refine (fdigitsO j s (p3 + 2) x.length deep (by have := HXS.out; omega) (by omega) (fun i h a b => HN.out.digX _ x rfl i h a) (fun h => absurd h (by have := HXS.out; omega)) w2 V1.out).mono ?_
              rintro e' wc ⟨rfl, h1, h2⟩
              rw [← HXS.out] at h1
              have h2 := V2.out.trans h2
              clear V1 V2
              have d0 := rd0 h1
              have d1 := rd1 h1
              have U1 := Lib.hid h1
              have U2 := Lib.hid h2
              have hgb := (h2.2.2 g hgj).trans HG.out
              have f0 : wc.frozen? ⟨g, 0, none⟩ = false := free_at hgb
              have f1 : wc.frozen? ⟨g, 1, none⟩ = false := free_at hgb
              have f2 : wc.frozen? ⟨g, 2, none⟩ = false := free_at hgb
              have f3 : wc.frozen? ⟨g, 3, none⟩ = false := free_at hgb
              have g0 : wc.cell? ⟨g, 0, none⟩ = some (.int .i64 0) := by rw [cell_at hgb]; rfl
              have g1 : wc.cell? ⟨g, 1, none⟩ = some (.string ⟨#[]⟩) := by rw [cell_at hgb]; rfl
              have g2 : wc.cell? ⟨g, 2, none⟩ = some (.slice none 0 0) := by rw [cell_at hgb]; rfl
              have g3 : wc.cell? ⟨g, 3, none⟩ = some (.slice none 0 0) := by rw [cell_at hgb]; rfl
              clear hgb
              clear h1 h2
              have hp3z : (s.size : Int) ≤ (s.size : Int) := by omega
              go_upto_region 14 with (fail)
              go_region
              all_goals
                generalize hW2 : World.drew _ = W2
                have hfin := number_end hgj HG.out U1.out U2.out HB.out hW2 (by omega) HGD.out HWW.out
                have e0 := cell_at (j := 0) hfin.1
                have e1 := cell_at (j := 1) hfin.1
                have e2 := cell_at (j := 2) hfin.1
                have e4 := cell_at (j := 3) hfin.1
                have HFI := Lib.hid hfin
                simp only [List.getElem?_toArray, List.getElem?_cons_zero, List.getElem?_cons_succ] at e0 e1 e2 e4
                clear hW2 hfin d0 d1 g0 g1 g2 g3 f0 f1 f2 f3
                go_wp2
                (try simp only [Exit.inBlock, Exit.then])
                refine bodyPost_ret (v := .tuple #[.agg #[.int .i64 3, .string s, .slice none 0 0, .slice none 0 0], .bool true]) ?_ rfl ⟨⟨s, rfl⟩, HFI.out.2.1, HFI.out.2.2⟩
                have hld := load29 HFI.out.1
                rw [results_cell_tmp rfl]
                simp [asAddr, Result.andThen, hld]
            · go_wp2_with fail
              refine (hasN j s ⟨#[43]⟩ (p3 + 1) deep (by omega) (by omega) (by decide) (by decide) 43 rfl (fun h he => by have := HXM.out; rw [he] at this; exact absurd this (by decide)) wc U1.out).mono ?_
              rintro e' w2 ⟨rfl, h1, h2⟩
              have V1 := Lib.hid h1
              have V2 := Lib.hid (U2.out.trans h2)
              clear h1 h2 U1 U2
              go_wp2_with fail
              refine (hasY j s 45 (p3 + 1) deep hx1 HXM.out (by omega) w2 V1.out).mono ?_
              rintro e' w2 ⟨rfl, h1, h2⟩
              have V1 := Lib.hid h1
              have V2 := Lib.hid (V2.out.trans h2)
              clear h1 h2
              go_wp2_with fail
              refine (fdigitsO j s (p3 + 2) x.length deep (by have := HXS.out; omega) (by omega) (fun i h a b => HN.out.digX _ x rfl i h a) (fun h => absurd h (by have := HXS.out; omega)) w2 V1.out).mono ?_
              rintro e' wc ⟨rfl, h1, h2⟩
              rw [← HXS.out] at h1
              have h2 := V2.out.trans h2
              clear V1 V2
              have d0 := rd0 h1
              have d1 := rd1 h1
              have U1 := Lib.hid h1
              have U2 := Lib.hid h2
              have hgb := (h2.2.2 g hgj).trans HG.out
              have f0 : wc.frozen? ⟨g, 0, none⟩ = false := free_at hgb
              have f1 : wc.frozen? ⟨g, 1, none⟩ = false := free_at hgb
              have f2 : wc.frozen? ⟨g, 2, none⟩ = false := free_at hgb
              have f3 : wc.frozen? ⟨g, 3, none⟩ = false := free_at hgb
              have g0 : wc.cell? ⟨g, 0, none⟩ = some (.int .i64 0) := by rw [cell_at hgb]; rfl
              have g1 : wc.cell? ⟨g, 1, none⟩ = some (.string ⟨#[]⟩) := by rw [cell_at hgb]; rfl
              have g2 : wc.cell? ⟨g, 2, none⟩ = some (.slice none 0 0) := by rw [cell_at hgb]; rfl
              have g3 : wc.cell? ⟨g, 3, none⟩ = some (.slice none 0 0) := by rw [cell_at hgb]; rfl
              clear hgb
              clear h1 h2
              have hp3z : (s.size : Int) ≤ (s.size : Int) := by omega
              go_upto_region 14 with (fail)
              go_region
              all_goals
                generalize hW2 : World.drew _ = W2
                have hfin := number_end hgj HG.out U1.out U2.out HB.out hW2 (by omega) HGD.out HWW.out
                have e0 := cell_at (j := 0) hfin.1
                have e1 := cell_at (j := 1) hfin.1
                have e2 := cell_at (j := 2) hfin.1
                have e4 := cell_at (j := 3) hfin.1
                have HFI := Lib.hid hfin
                simp only [List.getElem?_toArray, List.getElem?_cons_zero, List.getElem?_cons_succ] at e0 e1 e2 e4
                clear hW2 hfin d0 d1 g0 g1 g2 g3 f0 f1 f2 f3
                go_wp2
                (try simp only [Exit.inBlock, Exit.then])
                refine bodyPost_ret (v := .tuple #[.agg #[.int .i64 3, .string s, .slice none 0 0, .slice none 0 0], .bool true]) ?_ rfl ⟨⟨s, rfl⟩, HFI.out.2.1, HFI.out.2.2⟩
                have hld := load29 HFI.out.1
                rw [results_cell_tmp rfl]
                simp [asAddr, Result.andThen, hld]
end Go.Proofs.YtkkipddgkfidmaaGreatDoor
