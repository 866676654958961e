/- The contract of decimalOf at a number's text. No conditions beyond each theorem's own. -/
import Derived.Test.YtkkipddgkfidmaaGreatDoorKd
import Derived.Test.YtkkipddgkfidmaaGreatDoorQn
import Derived.Deep.CutBlock
namespace Go.Proofs.YtkkipddgkfidmaaGreatDoor
open Go.RowKit

theorem text_ne {s : ByteArray} (h : 0 < s.size) : s.toList.isEmpty = false := by
  rw [List.isEmpty_eq_false_iff, Lib.toList_data]
  intro e
  have h2 := data_size s
  rw [e] at h2
  have h3 : 0 = s.size := h2
  omega

theorem below_of_drew (B : Nat) (w : World) (n : Nat) : Below B w (w.drewN n) := ⟨rfl, rfl, rfl, Nat.le_refl _, fun _ _ => rfl⟩

/-- The digits of a row. -/
def fd (l : List UInt8) : List UInt8 := l.filter fun c => c != 46
theorem fd_digits {l : List UInt8} (h : digits l) : fd l = l := by
  unfold fd
  rw [List.filter_eq_self]
  intro c hc
  have := h c hc
  rw [bne_iff_ne]
  intro e
  subst e
  exact absurd this.1 (by decide)
theorem fd_all {neg : Bool} {V : Nat} {e : Int} {I F A : List UInt8} {X : Option (Bool × List UInt8)} {l : List UInt8} (h : TextOf neg V e I F X l) (hA : I ++ dotted F = A) : fd A = I ++ F := by
  rw [← hA]
  unfold fd
  rw [List.filter_append]
  congr 1
  · exact fd_digits h.dI
  · unfold dotted
    split
    · rename_i h0
      rw [h0]
      rfl
    · rw [List.filter_cons]
      simp only [bne_self_eq_false, Bool.false_eq_true, if_false]
      exact fd_digits h.dF
theorem chars_at {neg : Bool} {V : Nat} {e : Int} {I F A : List UInt8} {X : Option (Bool × List UInt8)} {l : List UInt8} (h : TextOf neg V e I F X l) (hA : I ++ dotted F = A) : ∀ i (hi : i < A.length), (48 ≤ (A[i]'hi).toNat ∧ (A[i]'hi).toNat ≤ 57) ∨ (A[i]'hi) = 46 := by
  have key : ∀ c ∈ A, (48 ≤ c.toNat ∧ c.toNat ≤ 57) ∨ c = 46 := by
    intro c hm
    rw [← hA, List.mem_append] at hm
    rcases hm with hm | hm
    · exact .inl (h.dI _ hm)
    · unfold dotted at hm
      split at hm
      · cases hm
      · rcases List.mem_cons.1 hm with hm | hm
        · exact .inr hm
        · exact .inl (h.dF _ hm)
  exact fun i hi => key _ (List.getElem_mem hi)
theorem ftimesR {i : Nat} {s3 : Value} {M : List Nat} {w : World} (h : (i = 0 ∧ s3 = .slice none 0 0 ∧ M = []) ∨ (0 < i ∧ Nz 0 s3 M w)) (hM : M.length ≤ 50000) (more : Nat) (hm : more < 4294967296) :
    Calls Tryz.prog 28 #[s3, .int .u32 10, .int .u32 (more : Int)] w fun e w' => ∃ v' M', e = .returned v' ∧ Nz 0 v' M' w' ∧ nv M' = nv M * 10 + more ∧ M'.length ≤ M.length + 1 ∧ Below w.heap.size w w' := by
  rcases h with ⟨_, rfl, rfl⟩ | ⟨_, h⟩
  · refine (ftimes none 0 [] 10 more (by simp) (by intro x h; cases h) (by decide) hm w (fun i h => absurd h (by simp))).mono ?_
    rintro e w' ⟨v', M', h1, h2, h3⟩
    exact ⟨v', M', h1, h2.free, h3⟩
  · refine (ftimesZ 0 s3 M 10 more hM (by decide) hm w h).mono ?_
    rintro e w' ⟨v', M', h1, h2, h3⟩
    exact ⟨v', M', h1, h2.free, h3⟩
theorem at_pre {u : ByteArray} {A B : List UInt8} (h : u.data.toList = A ++ B) {i : Nat} (hi : i < A.length) (hu : i < u.size) : u[i]'hu = A[i]'hi := by
  have := get_data u i hu
  rw [h, List.getElem?_append_left hi, List.getElem?_eq_getElem hi] at this
  exact (Option.some.inj this).symm
theorem end_chr {u : ByteArray} {A : List UInt8} {X : Option (Bool × List UInt8)} {a : Nat} (h : u.data.toList = A ++ xPart X) (ha : A.length = a) : (u.size = a) ∨ ∃ h : a < u.size, u[a]'h = 101 := by
  have hs := data_size u
  rw [h, List.length_append, ha] at hs
  match X, h, hs with
  | none, _, hs => exact .inl (by simpa [xPart] using hs.symm)
  | some (m, x), h, _ =>
    refine .inr (at_of (l := A ++ xPart (some (m, x))) h ?_)
    rw [List.getElem?_append_right (by omega), ha, Nat.sub_self]
    rfl
theorem chr_dot {neg : Bool} {V : Nat} {e : Int} {I F A : List UInt8} {X : Option (Bool × List UInt8)} {l : List UInt8} (h : TextOf neg V e I F X l) (hA : I ++ dotted F = A) {k : Nat} (hk : k < A.length) : (k = I.length ∧ A[k] = 46 ∧ A.length = I.length + 1 + F.length ∧ 0 < F.length) ∨ (k ≠ I.length ∧ A[k] ≠ 46) := by
  have hlen := congrArg List.length hA
  rw [List.length_append] at hlen
  have hne : ∀ c : UInt8, digit c → c ≠ 46 := by
    intro c hc e
    subst e
    exact absurd hc.1 (by decide)
  have hg : ∀ (m : List UInt8) (i : Nat), A[k]? = m[i]? → A[k] ∈ m := by
    intro m i he
    rw [List.getElem?_eq_getElem hk] at he
    exact List.mem_of_getElem? he.symm
  by_cases hkI : k < I.length
  · refine .inr ⟨by omega, hne _ (h.dI _ (hg I k ?_))⟩
    rw [← hA, List.getElem?_append_left hkI]
  · have hF : F ≠ [] := by
      intro e
      subst e
      simp [dotted] at hlen
      omega
    have hd : dotted F = 46 :: F := by unfold dotted; rw [if_neg hF]
    rw [hd, List.length_cons] at hlen
    by_cases hkE : k = I.length
    · refine .inl ⟨hkE, ?_, by omega, List.length_pos_iff.2 hF⟩
      have : A[k]? = some 46 := by
        rw [← hA, List.getElem?_append_right (by omega), hd, hkE, Nat.sub_self]
        rfl
      rw [List.getElem?_eq_getElem hk] at this
      exact Option.some.inj this
    · refine .inr ⟨hkE, hne _ (h.dF _ (hg F (k - I.length - 1) ?_))⟩
      rw [← hA, List.getElem?_append_right (by omega), hd]
      obtain ⟨n, hn⟩ : ∃ n, k - I.length = n + 1 := ⟨k - I.length - 1, by omega⟩
      rw [hn]
      rfl
theorem fd_step (A : List UInt8) (i : Nat) (hi : i < A.length) : fd (A.take (i + 1)) = if A[i] = 46 then fd (A.take i) else fd (A.take i) ++ [A[i]] := by
  rw [← List.take_append_getElem hi]
  unfold fd
  rw [List.filter_append]
  split
  · rename_i h
    simp [h]
  · rename_i h
    simp [h]

theorem exp_at {u : ByteArray} {A x : List UInt8} {m : Bool} {a : Nat} (h : u.data.toList = A ++ xPart (some (m, x))) (ha : A.length = a) : (∀ h : a < u.size, u[a]'h = 101) ∧ (∀ h : a + 1 < u.size, u[a + 1]'h = if m then 45 else 43) ∧ (∀ t (ht : t < x.length) q, a + 2 + t = q → ∀ h : q < u.size, u[q]'h = x[t]'ht) := by
  have hk : ∀ k, (A ++ xPart (some (m, x)))[a + k]? = (xPart (some (m, x)))[k]? := by
    intro k
    rw [List.getElem?_append_right (by omega), ha, Nat.add_sub_cancel_left]
  refine ⟨fun h' => ?_, fun h' => ?_, fun t ht q hq h' => ?_⟩
  · obtain ⟨_, e⟩ := at_of (i := a) (c := 101) h ((hk 0).trans rfl)
    exact e
  · obtain ⟨_, e⟩ := at_of (i := a + 1) (c := if m then 45 else 43) h ((hk 1).trans rfl)
    exact e
  · subst hq
    obtain ⟨_, e⟩ := at_of (i := a + 2 + t) (c := x[t]'ht) h (by
      rw [Nat.add_assoc, hk, Nat.add_comm 2 t]
      show x[t]? = _
      exact List.getElem?_eq_getElem ht)
    exact e
theorem valD_small {x : List UInt8} (h : digits x) : ∀ t, t ≤ x.length → valD (x.take t) < 10 ^ t := by
  intro t
  induction t with
  | zero => intro _; simp [valD]
  | succ t ih =>
    intro ht
    have := ih (by omega)
    rw [← List.take_append_getElem (show t < x.length by omega), valD_snoc, Nat.pow_succ]
    have h2 := h _ (List.getElem_mem (show t < x.length by omega))
    have := h2.2
    omega
theorem results_tmp4 {fn : Func} {t u v x : Tmp} (h : fn.results = #[.tmp t, .tmp u, .tmp v, .tmp x]) (tmps : Array Value) (P : Program) (w : World) :
    (results fn tmps).run P w = .ok (.tuple #[tmps.getD t undef, tmps.getD u undef, tmps.getD v undef, tmps.getD x undef]) w := by
  simp [results, h]

set_option maxRecDepth 100000 in
set_option maxHeartbeats 8000000 in
theorem fdecimal (neg : Bool) (V : Nat) (e : Int) (I F : List UInt8) (X : Option (Bool × List UInt8)) (l : List UInt8) (s : ByteArray) (hs : s.data.toList = l) (hT : TextOf neg V e I F X l) (w : World) :
    Calls Tryz.prog 14 #[.string s] w fun r w' => ∃ v M, r = .returned (.tuple #[.bool neg, v, .int .i64 e, .bool true]) ∧ Nz 0 v M w' ∧ nv M = V ∧ M.length ≤ 1000 ∧ Below w.heap.size w w' := by
  have hN := num_at hT hs
  have h0 : 0 < s.size := by have := hN.dI; have := hN.le2; have := hN.le3; omega
  have hne := text_ne h0
  have h0' : (0 : Int) < (s.size : Int) := by omega
  have HN := Lib.hid hN
  have HT := Lib.hid hT
  have HSS := Lib.hid hs
  clear hN hT hs
  go_enter Tryz.func14, Tryz.ntmps14
  obtain ⟨cb, hcb⟩ : ∃ cb, ((s[0].toNat : Int) == 45) = cb := ⟨_, rfl⟩
  have hcn : cb = neg := by
    rw [← hcb]
    cases neg
    · rw [beq_eq_false_iff_ne]
      intro he
      exact (HN.out.n1 rfl).2 h0 (UInt8.toNat_inj.1 (by show _ = 45; omega))
    · obtain ⟨_, _, he⟩ := HN.out.n0 rfl
      rw [he]
      rfl
  subst hcn
  go_upto_if 18 with (fail)
  go_cut [0, 2] from 18 to 20 (fun s0 s2 wx => ∃ u : ByteArray, s0 = .string u ∧ u.data.toList = I ++ dotted F ++ xPart X ∧ s2 = .bool cb ∧ Below w.heap.size w wx)
  case first =>
    have his := HT.out.is
    rw [← HSS.out] at his
    cases cb
    · go_wp2_with fail
      go_meet
      refine ⟨s, rfl, ?_, rfl, Below.refl _ _⟩
      rw [his]
      rfl
    · have h1 : (1 : Int) ≤ (s.size : Int) := by omega
      have HIS := Lib.hid his
      clear his
      go_wp2_with fail
      go_quiet (fail)
      go_wp2_with fail
      go_meet
      refine ⟨_, rfl, ?_, rfl, below_of_drew _ _ _⟩
      rw [Lib.extract_data, HIS.out]
      have hl := data_size s
      rw [HIS.out] at hl
      simp only [sg, if_true, List.length_append, List.length_cons, List.length_nil] at hl
      show List.take (s.size - 1) (I ++ dotted F ++ xPart X) = _
      exact List.take_of_length_le (by simp only [List.length_append]; omega)
  case rest =>
    obtain ⟨u, rfl, hu, rfl, hb⟩ := hcut
    obtain ⟨A, hA⟩ : ∃ A, I ++ dotted F = A := ⟨_, rfl⟩
    rw [hA] at hu
    have hAc := chars_at HT.out hA
    have hfA := fd_all HT.out hA
    have hA0 : 0 < A.length := by rw [← hA, List.length_append]; have := HT.out.nI; omega
    have hA1 : A.length ≤ 701 := by
      rw [← hA, List.length_append]
      have h1 := HT.out.lIF
      have h2 : (dotted F).length ≤ F.length + 1 := by unfold dotted; split <;> simp
      omega
    have HU := Lib.hid hu
    have HB := Lib.hid hb
    have HA := Lib.hid hA
    have HC := Lib.hid hAc
    have HF := Lib.hid hfA
    have hus : u.size = A.length + (xPart X).length := by rw [← data_size, hu, List.length_append]
    obtain ⟨a, ha⟩ : ∃ a, A.length = a := ⟨_, rfl⟩
    rw [ha] at hA0 hA1 hus
    have HUS := Lib.hid hus
    have HAL := Lib.hid ha
    clear hu hb hA hAc hfA hus ha hne h0' hcb
    go_upto_block 0 with (fail)
    go_cut [3, 6, 7] from 21 to 57 (fun s3 s6 s7 wx => ∃ M, Nz 0 s3 M wx ∧ nv M = valD (I ++ F) ∧ M.length ≤ a ∧ s6 = .int .i64 ((I.length + F.length : Nat) : Int) ∧ s7 = .int .i64 (a : Int) ∧ Below w.heap.size w wx)
    case first =>
      go_wp2_with fail
      go_loopg [3, 6, 7] a (fun gg s3 s6 s7 wr => ∃ (i : Nat) (M : List Nat), gg = a - i ∧ i ≤ a ∧ s7 = .int .i64 (i : Int) ∧ s6 = .int .i64 ((fd (A.take i)).length : Int) ∧ ((i = 0 ∧ s3 = .slice none 0 0 ∧ M = []) ∨ (0 < i ∧ Nz 0 s3 M wr)) ∧ nv M = valD (fd (A.take i)) ∧ M.length ≤ i ∧ Below w.heap.size w wr)
      case atStart => exact ⟨0, [], rfl, Nat.zero_le _, rfl, rfl, .inl ⟨rfl, rfl, rfl⟩, rfl, Nat.le_refl _, HB.out⟩
      case round =>
        obtain ⟨i, M, rfl, hia, rfl, rfl, hM, hv, hl, hbw⟩ := hrel
        have M1 := Lib.hid hM
        have M2 := Lib.hid hv
        have M3 := Lib.hid hl
        have M4 := Lib.hid hbw
        clear hM hv hl hbw
        by_cases hlt : i < a
        · have hiA : i < A.length := by have := HAL.out; omega
          have hiu : i < u.size := by have := HUS.out; omega
          have hiu' : (i : Int) < (u.size : Int) := by omega
          have hci := at_pre HU.out hiA hiu
          have hch := HC.out i hiA
          rw [← hci] at hch
          rcases hch with ⟨h48, h57⟩ | h46
          · have g48 : (u[i].toNat : Int) ≥ 48 := by omega
            have g57 : (u[i].toNat : Int) ≤ 57 := by omega
            have g46 : ((u[i].toNat : Int) == 46) = false := by rw [beq_eq_false_iff_ne]; omega
            obtain ⟨dg, hdg⟩ : ∃ dg : Nat, (u[i].toNat : Int) - 48 = dg := ⟨u[i].toNat - 48, by omega⟩
            have hd9 : dg < 4294967296 := by omega
            have hst := fd_step A i hiA
            rw [← hci, if_neg (by intro h; rw [h] at h48; exact absurd h48 (by decide))] at hst
            have hvs : valD (fd (A.take (i + 1))) = 10 * valD (fd (A.take i)) + dg := by
              rw [hst, valD_snoc]
              omega
            have hls : (fd (A.take (i + 1))).length = (fd (A.take i)).length + 1 := by rw [hst]; simp
            have VS := Lib.hid hvs
            have LS := Lib.hid hls
            have hfl : (fd (A.take i)).length ≤ 701 := by
              have h1 : (fd (A.take i)).length ≤ (A.take i).length := List.length_filter_le _ _
              rw [List.length_take] at h1
              omega
            clear hci h48 h57 hst hvs hls
            go_wp2_with fail
            refine (ftimesR M1.out (by have := M3.out; omega) dg hd9).mono ?_
            rintro r w1 ⟨v', M', rfl, h1, h2, h3, h4⟩
            have S1 := Lib.hid h1
            have S2 := Lib.hid h2
            have S3 := Lib.hid h3
            have S4 := Lib.hid (M4.out.trans (h4.mono M4.out.size))
            clear h1 h2 h3 h4 hdg
            go_wp2
            go_roundg (a - (i + 1))
            case measure => omega
            case rel =>
              refine ⟨i + 1, M', rfl, by omega, by go_num, by rw [LS.out]; first | rfl | (congr 1; omega), .inr ⟨by omega, S1.out⟩, ?_, by have := S3.out; have := M3.out; omega, S4.out⟩
              rw [S2.out, M2.out, VS.out]
              omega
          · have g48 : ¬ (u[i].toNat : Int) ≥ 48 := by rw [h46]; decide
            have g48b : decide ((u[i].toNat : Int) ≥ 48) = false := decide_eq_false g48
            have g46 : ((u[i].toNat : Int) == 46) = true := by rw [h46]; decide
            have hst := fd_step A i hiA
            rw [← hci, if_pos h46] at hst
            have hi0 : 0 < i := by
              rcases Nat.eq_zero_or_pos i with h0' | h0'
              · exfalso
                subst h0'
                have hnI := HT.out.nI
                have e1 : A[0]? = I[0]? := by rw [← HA.out, List.getElem?_append_left hnI]
                rw [List.getElem?_eq_getElem hiA, List.getElem?_eq_getElem hnI] at e1
                have e2 := HT.out.dI _ (List.getElem_mem hnI)
                rw [← Option.some.inj e1, ← hci, h46] at e2
                exact absurd e2.1 (by decide)
              · exact h0'
            have HST := Lib.hid hst
            clear hci h46 hst
            go_wp2
            go_roundg (a - (i + 1))
            case measure => omega
            case rel =>
              rcases M1.out with h | h
              · omega
              · exact ⟨i + 1, M, rfl, by omega, by go_num, by rw [HST.out], .inr ⟨by omega, h.2⟩, by rw [HST.out]; exact M2.out, by have := M3.out; omega, M4.out⟩
        · obtain rfl : i = a := by omega
          have hall : fd (A.take i) = I ++ F := by rw [List.take_of_length_le (by have := HAL.out; omega)]; exact HF.out
          have HALL := Lib.hid hall
          clear hall
          have hend : (u.size = i) ∨ ∃ h : i < u.size, u[i]'h = 101 := end_chr HU.out HAL.out
          have hz : Nz 0 u3 M wr := by
            rcases M1.out with h | h
            · omega
            · exact h.2
          have HZ := Lib.hid hz
          clear hz
          rcases hend with hend | ⟨hiu, h101⟩
          · have hge : ¬ (i : Int) < (u.size : Int) := by omega
            have hgeb : decide ((i : Int) < (u.size : Int)) = false := decide_eq_false hge
            clear hend
            go_wp2_with fail
            go_meet
            exact ⟨M, HZ.out, by rw [M2.out, HALL.out], M3.out, by rw [HALL.out, List.length_append], rfl, M4.out⟩
          · have hiu' : (i : Int) < (u.size : Int) := by omega
            have g48 : (u[i].toNat : Int) ≥ 48 := by rw [h101]; decide
            have g57 : ¬ (u[i].toNat : Int) ≤ 57 := by rw [h101]; decide
            have g57b : decide ((u[i].toNat : Int) ≤ 57) = false := decide_eq_false g57
            have g46 : ((u[i].toNat : Int) == 46) = false := by rw [h101]; decide
            clear h101
            go_wp2_with fail
            go_meet
            exact ⟨M, HZ.out, by rw [M2.out, HALL.out], M3.out, by rw [HALL.out, List.length_append], rfl, M4.out⟩
    case rest =>
      obtain ⟨M, hM, hv, hl, rfl, rfl, hb⟩ := hcut
      have N1 := Lib.hid hM
      have N2 := Lib.hid hv
      have N3 := Lib.hid hl
      have N4 := Lib.hid hb
      clear hM hv hl hb HB
      go_upto_block 2 with (fail)
      go_cut [4, 8] from 58 to 71 (fun s4 s8 wx => s4 = .int .i64 (-(F.length : Int)) ∧ wx = wc)
      case first =>
        go_wp2_with fail
        go_loopg [4, 8] a (fun gg s4 s8 wr => ∃ k : Nat, gg = a - k ∧ k ≤ a ∧ s8 = .int .i64 (k : Int) ∧ s4 = .int .i64 (if I.length < k ∧ 0 < F.length then -(F.length : Int) else 0) ∧ wr = wc)
        case atStart => exact ⟨0, rfl, Nat.zero_le _, rfl, by rw [if_neg (by omega)], rfl⟩
        case round =>
          obtain ⟨k, rfl, hka, rfl, hs4, hwr⟩ := hrel
          subst hwr
          have S4 := Lib.hid hs4
          clear hs4
          by_cases hlt : k < a
          · have hkA : k < A.length := by have := HAL.out; omega
            have hku : k < u.size := by have := HUS.out; omega
            have hku' : (k : Int) < (u.size : Int) := by omega
            have hck := at_pre HU.out hkA hku
            have hlt' : (k : Int) < (a : Int) := by omega
            rcases chr_dot HT.out HA.out hkA with ⟨h1, h2, h3, h4⟩ | ⟨h1, h2⟩
            · have g46 : ((u[k].toNat : Int) == 46) = true := by rw [hck, h2]; decide
              have H1 := Lib.hid h1
              have H3 := Lib.hid h3
              clear hck h1 h2 h3
              go_wp2_with fail
              go_roundg (a - (k + 1))
              case measure => omega
              case rel =>
                refine ⟨k + 1, rfl, by omega, by go_num, ?_, rfl⟩
                rw [if_pos ⟨by have := H1.out; omega, h4⟩]
                have := H1.out
                have := H3.out
                have := HAL.out
                congr 1
                omega
            · have g46 : ((u[k].toNat : Int) == 46) = false := by
                rw [hck, beq_eq_false_iff_ne]
                intro he
                exact h2 (UInt8.toNat_inj.1 (by show _ = 46; omega))
              have H1 := Lib.hid h1
              clear hck h1 h2
              go_wp2_with fail
              go_roundg (a - (k + 1))
              case measure => omega
              case rel =>
                refine ⟨k + 1, rfl, by omega, by go_num, ?_, rfl⟩
                rw [S4.out]
                have := H1.out
                by_cases hc : I.length < k ∧ 0 < F.length
                · rw [if_pos hc, if_pos ⟨by omega, hc.2⟩]
                · rw [if_neg hc, if_neg (fun h => hc ⟨by omega, h.2⟩)]
          · obtain rfl : k = a := by omega
            have hlt' : ¬ (k : Int) < (k : Int) := by omega
            go_wp2_with fail
            go_meet
            refine ⟨?_, rfl⟩
            rw [S4.out]
            rcases Nat.eq_zero_or_pos F.length with h0' | h0'
            · rw [if_neg (by omega), h0']; try rfl
            · have hIa : I.length < k := by
                have h1 := congrArg List.length HA.out
                have h2 := HAL.out
                rw [List.length_append] at h1
                have h3 : 0 < (dotted F).length := by
                  unfold dotted
                  split
                  · rename_i hf
                    rw [hf] at h0'
                    exact absurd h0' (by decide)
                  · simp
                omega
              rw [if_pos ⟨hIa, h0'⟩]
      case rest =>
        obtain ⟨rfl, rfl⟩ := hcut
        match X, HT, HU, HUS with
        | none, HT, HU, HUS =>
          have hua : u.size = a := HUS.out
          have hge : ¬ (a : Int) < (u.size : Int) := by omega
          have hI0 := HT.out.nI
          have hIF := HT.out.lIF
          have q1 : (I.length : Int) + (F.length : Int) > 0 := by omega
          have q2 : (I.length : Int) + (F.length : Int) ≤ 1200 := by omega
          have q3 : -(F.length : Int) ≥ -2000 := by omega
          have q4 : -(F.length : Int) ≤ 2000 := by omega
          clear hua
          have hee := HT.out.he
          have hVV := HT.out.hV
          have HE := Lib.hid hee
          have HV := Lib.hid hVV
          clear hee hVV
          go_wp2
          (try simp only [Exit.inBlock, Exit.then])
          refine bodyPost_ret (results_tmp4 rfl _ _ _) rfl ?_
          refine ⟨_, by rw [HE.out]; simp [xVal], M, N1.out, by rw [N2.out, HV.out], by have := N3.out; omega, N4.out⟩
        | some (m, x), HT, HU, HUS =>
          obtain ⟨hx1, hx2, hx3⟩ := HT.out.hX m x rfl
          have hus : u.size = a + (x.length + 2) := HUS.out
          have hIF := HT.out.lIF
          have hxa := exp_at HU.out HAL.out
          have hxb := valD_small hx1
          have hau : a < u.size := by omega
          have hau1 : a + 1 < u.size := by omega
          have hau' : (a : Int) < (u.size : Int) := by omega
          have hau1' : (a : Int) + 1 < (u.size : Int) := by omega
          have g101 : ((u[a].toNat : Int) != 101) = false := by rw [hxa.1 hau]; decide
          have hee := HT.out.he
          have hVV := HT.out.hV
          have HE := Lib.hid hee
          have HV := Lib.hid hVV
          have HXA := Lib.hid hxa
          have HXB := Lib.hid hxb
          have HX1 := Lib.hid hx1
          have HSZ := Lib.hid hus
          clear hee hVV hxa hxb hx1 hus
          cases m
          · have g45 : ((u[a + 1].toNat : Int) == 45) = false := by rw [HXA.out.2.1 hau1]; decide
            have g43 : ((u[a + 1].toNat : Int) == 43) = true := by rw [HXA.out.2.1 hau1]; decide
            go_upto_block 4 with (fail)
            go_cut [7, 10] from 117 to 146 (fun s7 s10 wx => s7 = .int .i64 (u.size : Int) ∧ s10 = .int .i64 (valD x : Int) ∧ wx = wc)
            case first =>
              go_wp2_with fail
              go_loopg [7, 10] x.length (fun gg s7 s10 wr => ∃ t : Nat, gg = x.length - t ∧ t ≤ x.length ∧ s7 = .int .i64 ((a + 2 + t : Nat) : Int) ∧ s10 = .int .i64 (valD (x.take t) : Int) ∧ wr = wc)
              case atStart => exact ⟨0, rfl, Nat.zero_le _, rfl, rfl, rfl⟩
              case round =>
                obtain ⟨t, rfl, htx, rfl, rfl, hwr⟩ := hrel
                subst hwr
                obtain ⟨q, hq⟩ : ∃ q, a + 2 + t = q := ⟨_, rfl⟩
                rw [hq]
                obtain ⟨vn, hvn⟩ : ∃ vn, valD (x.take t) = vn := ⟨_, rfl⟩
                rw [hvn]
                have hb1 := HXB.out t htx
                rw [hvn] at hb1
                have hb2 : vn < 1000 := Nat.lt_of_lt_of_le hb1 (Nat.pow_le_pow_right (n := 10) (by decide) (show t ≤ 3 by omega))
                have HQ := Lib.hid hq
                have HVN := Lib.hid hvn
                clear hb1 hq hvn
                by_cases hlt : t < x.length
                · have hqu : q < u.size := by have := HSZ.out; have := HQ.out; omega
                  have hqu' : (q : Int) < (u.size : Int) := by omega
                  have hq9 : (q : Int) ≤ 2000 := by have := HSZ.out; omega
                  have huq : u[q]'hqu = x[t]'hlt := HXA.out.2.2 t hlt q HQ.out hqu
                  have hdx := HX1.out _ (List.getElem_mem hlt)
                  rw [← huq] at hdx
                  have g48 : (u[q].toNat : Int) ≥ 48 := by have := hdx.1; omega
                  have g57 : (u[q].toNat : Int) ≤ 57 := by have := hdx.2; omega
                  have gn : (vn : Int) < 10000 := by omega
                  have hstep : valD (x.take (t + 1)) = 10 * vn + (u[q].toNat - 48) := by
                    rw [← List.take_append_getElem hlt, valD_snoc, HVN.out, huq]
                  have HST := Lib.hid hstep
                  clear huq hdx hstep
                  go_wp2_with fail
                  go_roundg (x.length - (t + 1))
                  case measure => omega
                  case rel =>
                    refine ⟨t + 1, rfl, by omega, by have := HQ.out; first | rfl | (congr 1; omega), ?_, rfl⟩
                    rw [HST.out]
                    congr 1
                    omega
                · have hqe : q = u.size := by have := HSZ.out; have := HQ.out; omega
                  have hge : ¬ (q : Int) < (u.size : Int) := by omega
                  have hgeb : decide ((q : Int) < (u.size : Int)) = false := decide_eq_false hge
                  have HQE := Lib.hid hqe
                  clear hqe
                  go_wp2_with fail
                  go_meet
                  refine ⟨by rw [HQE.out], ?_, rfl⟩
                  rw [← HVN.out, List.take_of_length_le (by omega)]
            case rest =>
              obtain ⟨rfl, rfl, rfl⟩ := hcut
              obtain ⟨vx, hvx⟩ : ∃ vx, valD x = vx := ⟨_, rfl⟩
              rw [hvx]
              have hv3 : vx < 1000 := by
                have := HXB.out x.length (Nat.le_refl _)
                rw [List.take_of_length_le (Nat.le_refl _), hvx] at this
                exact Nat.lt_of_lt_of_le this (Nat.pow_le_pow_right (n := 10) (by decide) hx3)
              have HVX := Lib.hid hvx
              clear hvx
              have hne2 : ((u.size : Int) == (a : Int) + 2) = false := by rw [beq_eq_false_iff_ne]; have := HSZ.out; omega
              have hne3 : ((u.size : Int) == (a : Int) + 1 + 1) = false := by rw [beq_eq_false_iff_ne]; have := HSZ.out; omega
              have hI0 := HT.out.nI
              have q1 : (I.length : Int) + (F.length : Int) > 0 := by omega
              have q2 : (I.length : Int) + (F.length : Int) ≤ 1200 := by omega
              have q3 : -(F.length : Int) + (vx : Int) ≥ -2000 := by omega
              have q4 : -(F.length : Int) + (vx : Int) ≤ 2000 := by omega
              go_wp2
              (try simp only [Exit.inBlock, Exit.then])
              refine bodyPost_ret (results_tmp4 rfl _ _ _) rfl ?_
              refine ⟨_, M, by rw [HE.out]; simp [xVal, HVX.out], N1.out, by rw [N2.out, HV.out], by have := N3.out; omega, N4.out⟩
          · have g45 : ((u[a + 1].toNat : Int) == 45) = true := by rw [HXA.out.2.1 hau1]; decide
            go_upto_block 4 with (fail)
            go_cut [7, 10] from 117 to 146 (fun s7 s10 wx => s7 = .int .i64 (u.size : Int) ∧ s10 = .int .i64 (valD x : Int) ∧ wx = wc)
            case first =>
              go_wp2_with fail
              go_loopg [7, 10] x.length (fun gg s7 s10 wr => ∃ t : Nat, gg = x.length - t ∧ t ≤ x.length ∧ s7 = .int .i64 ((a + 2 + t : Nat) : Int) ∧ s10 = .int .i64 (valD (x.take t) : Int) ∧ wr = wc)
              case atStart => exact ⟨0, rfl, Nat.zero_le _, rfl, rfl, rfl⟩
              case round =>
                obtain ⟨t, rfl, htx, rfl, rfl, hwr⟩ := hrel
                subst hwr
                obtain ⟨q, hq⟩ : ∃ q, a + 2 + t = q := ⟨_, rfl⟩
                rw [hq]
                obtain ⟨vn, hvn⟩ : ∃ vn, valD (x.take t) = vn := ⟨_, rfl⟩
                rw [hvn]
                have hb1 := HXB.out t htx
                rw [hvn] at hb1
                have hb2 : vn < 1000 := Nat.lt_of_lt_of_le hb1 (Nat.pow_le_pow_right (n := 10) (by decide) (show t ≤ 3 by omega))
                have HQ := Lib.hid hq
                have HVN := Lib.hid hvn
                clear hb1 hq hvn
                by_cases hlt : t < x.length
                · have hqu : q < u.size := by have := HSZ.out; have := HQ.out; omega
                  have hqu' : (q : Int) < (u.size : Int) := by omega
                  have hq9 : (q : Int) ≤ 2000 := by have := HSZ.out; omega
                  have huq : u[q]'hqu = x[t]'hlt := HXA.out.2.2 t hlt q HQ.out hqu
                  have hdx := HX1.out _ (List.getElem_mem hlt)
                  rw [← huq] at hdx
                  have g48 : (u[q].toNat : Int) ≥ 48 := by have := hdx.1; omega
                  have g57 : (u[q].toNat : Int) ≤ 57 := by have := hdx.2; omega
                  have gn : (vn : Int) < 10000 := by omega
                  have hstep : valD (x.take (t + 1)) = 10 * vn + (u[q].toNat - 48) := by
                    rw [← List.take_append_getElem hlt, valD_snoc, HVN.out, huq]
                  have HST := Lib.hid hstep
                  clear huq hdx hstep
                  go_wp2_with fail
                  go_roundg (x.length - (t + 1))
                  case measure => omega
                  case rel =>
                    refine ⟨t + 1, rfl, by omega, by have := HQ.out; first | rfl | (congr 1; omega), ?_, rfl⟩
                    rw [HST.out]
                    congr 1
                    omega
                · have hqe : q = u.size := by have := HSZ.out; have := HQ.out; omega
                  have hge : ¬ (q : Int) < (u.size : Int) := by omega
                  have hgeb : decide ((q : Int) < (u.size : Int)) = false := decide_eq_false hge
                  have HQE := Lib.hid hqe
                  clear hqe
                  go_wp2_with fail
                  go_meet
                  refine ⟨by rw [HQE.out], ?_, rfl⟩
                  rw [← HVN.out, List.take_of_length_le (by omega)]
            case rest =>
              obtain ⟨rfl, rfl, rfl⟩ := hcut
              obtain ⟨vx, hvx⟩ : ∃ vx, valD x = vx := ⟨_, rfl⟩
              rw [hvx]
              have hv3 : vx < 1000 := by
                have := HXB.out x.length (Nat.le_refl _)
                rw [List.take_of_length_le (Nat.le_refl _), hvx] at this
                exact Nat.lt_of_lt_of_le this (Nat.pow_le_pow_right (n := 10) (by decide) hx3)
              have HVX := Lib.hid hvx
              clear hvx
              have hne2 : ((u.size : Int) == (a : Int) + 2) = false := by rw [beq_eq_false_iff_ne]; have := HSZ.out; omega
              have hne3 : ((u.size : Int) == (a : Int) + 1 + 1) = false := by rw [beq_eq_false_iff_ne]; have := HSZ.out; omega
              have hI0 := HT.out.nI
              have q1 : (I.length : Int) + (F.length : Int) > 0 := by omega
              have q2 : (I.length : Int) + (F.length : Int) ≤ 1200 := by omega
              have q3 : -(F.length : Int) + -(vx : Int) ≥ -2000 := by omega
              have q4 : -(F.length : Int) + -(vx : Int) ≤ 2000 := by omega
              go_wp2
              (try simp only [Exit.inBlock, Exit.then])
              refine bodyPost_ret (results_tmp4 rfl _ _ _) rfl ?_
              refine ⟨_, M, by rw [HE.out]; simp [xVal, HVX.out], N1.out, by rw [N2.out, HV.out], by have := N3.out; omega, N4.out⟩
end Go.Proofs.YtkkipddgkfidmaaGreatDoor
