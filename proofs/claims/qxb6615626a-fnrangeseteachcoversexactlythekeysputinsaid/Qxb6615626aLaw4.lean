/-
  FnRangeSetEachCoversExactlyTheKeysPutIn: the walk.
-/
import Derived.Test.Qxb6615626aLawq
import Derived.Test.Qxb6615626aBya
import Derived.Deep.DeepCutAuto
namespace Go.Proofs.Qxb6615626a.BA
open Go.RowKit
set_option linter.unusedVariables false

set_option maxRecDepth 20000 in
set_option maxHeartbeats 8000000 in
theorem law4_any (s e t pr : Sl) (ss es : List Sl) (ls le : List (List UInt8)) (lt lp : List UInt8) (op : Bool) (w : World) (h1 : LstW w s ss ls) (h2 : LstW w e es le) (h3 : BytW w t lt) (h4 : BytW w pr lp) (hn1 : s.n ≤ maxLen) (hn2 : e.n ≤ maxLen) (hn3 : t.n ≤ maxLen) (hn4 : pr.n ≤ maxLen) :
    Calls Try.prog 4 #[s.v, e.v, t.v, .bool op, pr.v] w (TruePost w) := by
  have HZ := hide (zzBytes17 s ss e es t (.bool op) pr w h1.lst h1.small hn1 h2.lst h2.small hn2 hn3 hn4)
  have HFT := hide (zzRangesFit_any s e t pr ss es w h1.lst h2.lst h1.small h2.small hn1 hn2 hn3 hn4)
  have H1 := hide h1; have H2 := hide h2; have H3 := hide h3; have HN3 := hide hn3; have H4 := hide h4
  clear h1 h2 h3 h4 hn1 hn2 hn3 hn4
  go_enter Try.func4, Try.ntmps4
  go_wp2_with fail
  refine (unhide HZ).mono ?_
  rintro r W ⟨hW, b, rfl⟩
  rw [hW]; clear hW W HZ
  cases b with
  | false =>
    go_wp2_with fail
    go_ret
    exact ⟨rfl, Fr.refl _ w⟩
  | true =>
  go_wp2_with fail
  refine (unhide HFT).mono ?_
  rintro r W ⟨hW, b, rfl, hb⟩
  rw [hW]; clear hW W HFT
  cases b with
  | false =>
    go_wp2_with fail
    go_ret
    exact ⟨rfl, Fr.refl _ w⟩
  | true =>
  obtain ⟨f1, f2, f3, f4, f5, f6⟩ := hb rfl
  have HF4 := hide f4
  clear hb
  have HROK := hide (zzRangesOK_any s e t ss es ls le lt op w (unhide H1) (unhide H2) (unhide H3) f2 f1 (unhide HN3))
  have HF := hide (⟨f1, f2, f3, f5, f6⟩ : s.n ≤ 1024 ∧ e.n = s.n ∧ t.n ≤ 1048576 ∧ (∀ t ∈ ss, t.n ≤ 1048576) ∧ ∀ t ∈ es, t.n ≤ 1048576)
  clear f1 f2 f3 f4 f5 f6
  go_wp2_with fail
  refine (unhide HROK).mono ?_
  rintro r W1 ⟨⟨m1, hW1⟩, b, rfl, hb⟩
  have FR1 : Fr (fun _ => False) w W1 := by rw [hW1]; exact (Fr.refl _ w).drewN m1
  clear hW1 HROK
  cases b with
  | false =>
    have HFR1 := hide FR1
    clear FR1
    go_wp2_with fail
    go_ret
    exact ⟨rfl, unhide HFR1⟩
  | true =>
  have HR := hide (hb rfl)
  have HC1 := hide (zzCloneAll_any s ss ls W1 ((unhide H1).frame FR1) (by have := (unhide HF).1; omega) (unhide HF).2.2.2.1)
  have HFR1 := hide FR1
  clear FR1 hb
  go_wp2_with fail
  refine (unhide HC1).mono ?_
  rintro r W2 ⟨s1, ss1, rfl, c1, c2, c3, c4, c5⟩
  have FR2 : Fr (fun _ => False) w W2 := (unhide HFR1).trans c4 (fun _ _ e => e)
  have HC2 := hide (zzCloneAll_any e es le W2 ((unhide H2).frame FR2) (by have := (unhide HF).1; have := (unhide HF).2.1; omega) (unhide HF).2.2.2.2)
  have HS1 := hide (⟨c1, c2, c5⟩ : s1.n = s.n ∧ LstB W2 s1 ss1 ls ∧ ∀ t ∈ ss1, t.n ≤ 1048576); have HFR2 := hide FR2
  clear c1 c2 c3 c4 c5 FR2 HC1 HFR1
  go_wp2_with fail
  refine (unhide HC2).mono ?_
  rintro r W3 ⟨e1, es1, rfl, c1, c2, c3, c4, c5⟩
  have FR3 : Fr (fun _ => False) w W3 := (unhide HFR2).trans c4 (fun _ _ e => e)
  have HC3 := hide (zzClone_weak t lt W3 ((unhide H3).frame FR3) (unhide HF).2.2.1)
  have HS2 := hide (⟨c1, c2, c5, fun t ht => (c3 t ht).imp id (fun h => ⟨Nat.le_trans (unhide HFR2).size h.1, h.2⟩), (unhide HS1).2.1.frame c4⟩ : e1.n = e.n ∧ LstB W3 e1 es1 le ∧ (∀ t ∈ es1, t.n ≤ 1048576) ∧ (∀ t ∈ es1, t.made w.heap.size W3.heap.size) ∧ LstB W3 s1 ss1 ls); have HFR3 := hide FR3
  clear c1 c2 c3 c4 c5 FR3 HC2 HFR2
  go_wp2_with fail
  refine (unhide HC3).mono ?_
  rintro r W4 ⟨t1, rfl, c1, c2, c3, c4⟩
  have HST : Hid (RStart w W4 s1 e1 t1 ss1 es1 ls le lt op) := hide (by
    obtain ⟨a1, a2, a3⟩ := unhide HS1
    obtain ⟨b1, b2, b3, b4, b5⟩ := unhide HS2
    obtain ⟨d1, d2, d3, d4, d5⟩ := unhide HF
    exact ⟨(unhide HFR3).trans c4 (fun _ _ e => e), b5.frame c4, b2.frame c4, c1, by omega, by omega, unhide HR, b3, a3, by omega, fun t ht => (b4 t ht).imp id (fun h => ⟨h.1, Nat.lt_of_lt_of_le h.2 c4.size⟩)⟩)
  clear c1 c2 c3 c4 HC3 HS1 HS2 HF HR HFR3 H1 H2 H3 HN3
  have HC4 := hide (zzClone_weak pr lp W4 ((unhide H4).frame (unhide HST).fr) (unhide HF4))
  go_wp2_with fail
  refine (unhide HC4).mono ?_
  rintro r W5 ⟨p1, rfl, c1, c2, c3, c4⟩
  have HP1 := hide (⟨c1, c2, c4⟩ : Byt W5 p1 lp ∧ p1.n = pr.n ∧ Fr (fun _ => False) W4 W5)
  clear c1 c2 c3 c4 HC4
  obtain ⟨sa, en, sc⟩ := s1
  obtain ⟨ea, en2, ec⟩ := e1
  obtain ⟨ta, tn, tc⟩ := t1
  obtain ⟨pa, pn, pc⟩ := p1
  have hns : en = en2 := (unhide HST).ns
  subst hns
  have hen : en ≤ 1024 := (unhide HST).n1
  simp only [Sl.v]
  have HRS1 := hide (zzRangeSet_any (rdf W4) (· ∈ es1) ⟨sa, en, sc⟩ ⟨ea, en, ec⟩ ⟨ta, tn, tc⟩ ss1 es1 op false W5 ((unhide HST).hs.lst.frame (unhide HP1).2.2) ((unhide HST).he.lst.frame (unhide HP1).2.2) rfl hen ((unhide HST).kok W5 (unhide HP1).2.2) (fun s hs => Nat.le_trans ((unhide HST).sm s hs) (by unfold maxLen; omega)) (fun t ht => ht))
  go_wp2_with fail
  refine (unhide HRS1).mono ?_
  rintro r W6 ⟨rb1, eb1, T1, tl1, rfl, x1, x2, x3, x4, x5, x6⟩
  have HL := hide (unhide HST).len
  have HH1 := hide (held_of x2 (unhide HST).fe (unhide HST).rok (by have := unhide HL; omega))
  have hlT1 : T1.es.length = en := by have := (unhide HH1).len (by have := unhide HL; omega); have := unhide HL; simp at this; omega
  have HY := hide (⟨x1, x3, x4, (unhide HP1).2.2.trans x5 (fun _ _ e => e), x5⟩ : Ok (rdf W4) (· ∈ es1) W5.heap.size W6 eb1 T1 ∧ RsAt W6 rb1 eb1 tl1 op ∧ (op = true → tl1 = ⟨ta, tn, tc⟩) ∧ Fr (fun _ => False) W4 W6 ∧ Fr (fun _ => False) W5 W6)
  obtain ⟨tot, htot⟩ : ∃ tot : Nat, tot = en + if op then 1 else 0 := ⟨_, rfl⟩
  have HR1 := hide (show (ranges T1 tl1 op).length = tot from by rw [length_ranges, hlT1, htot])
  have HT1 := hide hlT1; have HTOT := hide htot
  clear x1 x2 x3 x4 x5 x6 HRS1 hlT1 htot
  go_upto_if 55 with fail
  go_cut [12] (fun v wc => v = .int .i64 tot ∧ wc = W6)
  case first =>
    cases op with
    | true =>
      go_wp2_with fail
      go_meet
      case rel => exact ⟨by have := unhide HTOT; simp at this; rw [this]; go_num, rfl⟩
    | false =>
      go_wp2_with fail
      go_meet
      case rel => exact ⟨by have := unhide HTOT; simp at this; rw [this], rfl⟩
  case rest =>
  as_aux_lemma =>
  obtain ⟨rfl, rfl⟩ := hcut
  have htt : tot ≤ 1025 := by have := unhide HTOT; split at this <;> omega
  have HK1 := hide ((unhide HY).1.keys)
  have HGR := hide ((unhide HST).goodR (unhide HH1) (unhide HK1) (unhide HY).2.2.1)
  have HE1 := hide (zzEach_any (rdf W4) (· ∈ es1) W5.heap.size eb1 T1 wc rb1 tl1 op ((tot : Int) + 1) (unhide HY).1 (((unhide HST).kok W5 (unhide HP1).2.2).fr (unhide HY).2.2.2.2 (fun _ _ e => e)) (by rw [unhide HT1]; omega) (rdf_nil W4) (unhide HY).2.1)
  go_wp2_with fail
  refine (unhide HE1).mono ?_
  intro r W7 hz
  obtain ⟨q1, q2⟩ := handed_all (n := tot) (stop := (tot : Int) + 1) (.inr (by omega))
  obtain ⟨fa, fb, fc, fd, rfl, y1, y2, y3⟩ := zeach_some hz tot tot (unhide HR1) q1
  rw [q2]
  rw [List.take_of_length_le (by rw [unhide HR1]; exact Nat.le_refl _)] at y1 y2
  have F47 : Fr (fun _ => False) W4 W7 := (unhide HY).2.2.2.1.trans y3 (fun _ _ e => e)
  have HF47 := hide F47
  have HFS := hide y1; have HFE := hide y2
  have HLS := hide ((unhide HST).hs.lst.frame F47); have HLE := hide ((unhide HST).he.lst.frame F47)
  have HPR := hide (show Byt W7 ⟨pa, pn, pc⟩ lp ∧ pn ≤ maxLen from ⟨(unhide HP1).1.fr ((unhide HY).2.2.2.2.trans y3 (fun _ _ e => e)) (fun _ e => e), by have h1 : pn = pr.n := (unhide HP1).2.1; have h2 := unhide HF4; unfold maxLen; omega⟩)
  clear hz q1 q2 y1 y2 y3 F47 HE1
  go_wp2_with fail
  go_loopw [16, 17] (fun v16 v17 wr => ∃ k m : Nat, k ≤ en ∧ v17 = .int .i64 k ∧ v16 = .bool (((ls.zip le).take k).any (hold lp)) ∧ Hid (wr = W7.drewN m)) (fun _ v _ => en - (intOf v).toNat)
  case atStart => exact ⟨0, 0, Nat.zero_le _, rfl, rfl, hide rfl⟩
  case round =>
    obtain ⟨k, m, hk, rfl, rfl, HW⟩ := hrel
    by_cases hkl : k < en
    · as_aux_lemma =>
      obtain ⟨b1, o1, x, rfl, hc1, g1⟩ := (unhide HLS).at hkl
      obtain ⟨b2, o2, y, rfl, hc2, k1⟩ := (unhide HLE).at hkl
      have p1 : wr.cell? ⟨b1, o1 + k, none⟩ = some (.slice x.a x.n x.c) := by rw [unhide HW]; exact hc1
      have p2 : wr.cell? ⟨b2, o2 + k, none⟩ = some (.slice y.a y.n y.c) := by rw [unhide HW]; exact hc2
      have FW : Fr (fun _ => False) W4 wr := by rw [unhide HW]; exact (unhide HF47).drewN _
      have GX := ((unhide HST).goodS x (List.mem_of_getElem? g1)).frame FW
      have GY := ((unhide HST).goodE y (List.mem_of_getElem? k1)).frame FW
      have GP : Byt wr ⟨pa, pn, pc⟩ lp := by rw [unhide HW]; exact (unhide HPR).1
      obtain ⟨c1, e1⟩ : ∃ c, c = Pl.cmp (rdf W4 x) lp := ⟨_, rfl⟩
      obtain ⟨c2, e2⟩ : ∃ c, c = Pl.cmp lp (rdf W4 y) := ⟨_, rfl⟩
      have HA := hide (cmpIs wr x ⟨pa, pn, pc⟩ _ lp GX.1 GP GX.2 (unhide HPR).2)
      have HB := hide (cmpIs wr ⟨pa, pn, pc⟩ y lp _ GP GY.1 (unhide HPR).2 GY.2)
      rw [← e1] at HA
      rw [← e2] at HB
      obtain ⟨bk, hbk⟩ : ∃ b, b = ((ls.zip le).take k).any (hold lp) := ⟨_, rfl⟩
      rw [← hbk]
      have hlk := (unhide HST).le_at k1
      have hsk := (unhide HST).ls_at g1
      have hstep : ((ls.zip le).take (k + 1)).any (hold lp) = (bk || (decide (c1 ≤ 0) && decide (c2 < 0))) := by
        have hz : (ls.zip le)[k]? = some (rdf W4 x, rdf W4 y) := List.getElem?_zip_eq_some (z := (_, _)).2 ⟨hsk, hlk⟩
        obtain ⟨hz1, hz2⟩ := List.getElem?_eq_some_iff.1 hz
        rw [List.take_succ_eq_append_getElem hz1, List.any_append, hz2, hbk]
        congr 1
        obtain ⟨i1, i2⟩ := List.getElem?_eq_some_iff.1 hlk
        have hne := ((unhide HST).rok.one k i1).ne i1
        rw [i2] at hne
        have hne2 : (rdf W4 y).isEmpty = false := by
          cases hh : rdf W4 y with
          | nil => exact absurd hh hne
          | cons a b => rfl
        simp only [List.any_cons, List.any_nil, Bool.or_false, hold, e1, e2, hne2, Bool.false_or]
      have HSTEP := hide hstep
      clear hc1 hc2 g1 k1 FW GX GY GP e1 e2 hbk hlk hsk hstep
      by_cases d1 : c1 ≤ 0
      · go_wp2_with fail
        refine (unhide HA _ rfl).mono ?_
        rintro e W8 ⟨rfl, m8, hW8⟩
        have p2' : W8.cell? ⟨b2, o2 + k, none⟩ = some (.slice y.a y.n y.c) := by rw [hW8]; exact p2
        have HB' := hide ((unhide HB) W8 (by rw [hW8]; rfl))
        have HW8 := hide (show W8 = W7.drewN (m + m8) from by rw [hW8, unhide HW, World.drewN_drewN])
        clear hW8
        by_cases d2 : c2 < 0
        · go_wp2_with fail
          refine (unhide HB').mono ?_
          rintro e W9 ⟨rfl, m9, hW9⟩
          have HW9 := hide (show W9 = W7.drewN (m + m8 + m9) from by rw [hW9, unhide HW8, World.drewN_drewN])
          clear hW9
          go_wp2_with fail
          go_roundw
          case rel => exact ⟨k + 1, _, by omega, by go_num, by rw [unhide HSTEP]; simp [d1, d2], HW9⟩
          case measure => simp [intOf]; omega
        · go_wp2_with fail
          refine (unhide HB').mono ?_
          rintro e W9 ⟨rfl, m9, hW9⟩
          have HW9 := hide (show W9 = W7.drewN (m + m8 + m9) from by rw [hW9, unhide HW8, World.drewN_drewN])
          clear hW9
          go_wp2_with fail
          go_roundw
          case rel => exact ⟨k + 1, _, by omega, by go_num, by rw [unhide HSTEP, decide_eq_false (show ¬ c2 < 0 by omega)]; simp, HW9⟩
          case measure => simp [intOf]; omega
      · go_wp2_with fail
        refine (unhide HA _ rfl).mono ?_
        rintro e W8 ⟨rfl, m8, hW8⟩
        have HW8 := hide (show W8 = W7.drewN (m + m8) from by rw [hW8, unhide HW, World.drewN_drewN])
        clear hW8
        go_wp2_with fail
        go_roundw
        case rel => exact ⟨k + 1, _, by omega, by go_num, by rw [unhide HSTEP, decide_eq_false (show ¬ c1 ≤ 0 by omega)]; simp, HW8⟩
        case measure => simp [intOf]; omega
    · as_aux_lemma =>
      obtain ⟨bk, hbk⟩ : ∃ b, b = ((ls.zip le).take k).any (hold lp) := ⟨_, rfl⟩
      rw [← hbk]
      obtain ⟨cc, hcc⟩ : ∃ c, c = (op && decide (Pl.cmp lt lp ≤ 0)) := ⟨_, rfl⟩
      have HIN := hide (show (bk || cc) = (putIn ls le lt op).any (hold lp) from by
        have hl := unhide HL
        unfold putIn
        rw [List.any_append, hbk, hcc, List.take_of_length_le (by rw [List.length_zip]; (try simp at hl); omega)]
        congr 1
        cases op with
        | false => rfl
        | true => simp [hold])
      have HCC := hide hcc
      clear hbk hcc
      go_upto_region 24 with fail
      go_cut [108] (fun v wc => v = .bool cc ∧ Hid (∃ m, wc = W7.drewN m))
      case first =>
        cases op with
        | false =>
          go_wp2_with fail
          go_meet
          case rel => exact ⟨by rw [unhide HCC]; rfl, hide ⟨_, unhide HW⟩⟩
        | true =>
          have FW : Fr (fun _ => False) W4 wr := by rw [unhide HW]; exact (unhide HF47).drewN _
          have GT := (unhide HST).goodT.frame FW
          have GP : Byt wr ⟨pa, pn, pc⟩ lp := by rw [unhide HW]; exact (unhide HPR).1
          have HA := hide (cmpIs wr ⟨ta, tn, tc⟩ ⟨pa, pn, pc⟩ _ lp GT.1 GP GT.2 (unhide HPR).2)
          have et : rdf W4 ⟨ta, tn, tc⟩ = lt := rdf_eq (unhide HST).ht
          rw [et] at HA
          obtain ⟨c1, e1⟩ : ∃ c, c = Pl.cmp lt lp := ⟨_, rfl⟩
          rw [← e1] at HA HCC
          clear FW GT GP et e1
          go_wp2_with fail
          refine (unhide HA _ rfl).mono ?_
          rintro e W9 ⟨rfl, m9, hW9⟩
          have HW9 := hide (show ∃ m, W9 = W7.drewN m from ⟨_, by rw [hW9, unhide HW, World.drewN_drewN]⟩)
          clear hW9
          go_wp2_with fail
          go_meet
          case rel => exact ⟨by rw [unhide HCC]; rfl, HW9⟩
      case rest =>
      as_aux_lemma =>
      obtain ⟨rfl, HWC⟩ := hcut
      go_upto_if 108 with fail
      go_cut [16] (fun v wc => v = .bool (bk || cc) ∧ Hid (∃ m, wc = W7.drewN m))
      case first =>
        cases cc with
        | true =>
          go_wp2_with fail
          go_meet
          case rel => exact ⟨by simp, HWC⟩
        | false =>
          go_wp2_with fail
          go_meet
          case rel => exact ⟨by simp, HWC⟩
      case rest =>
      as_aux_lemma =>
      obtain ⟨rfl, HWC⟩ := hcut
      rw [unhide HIN]
      have HFND := hide ((unhide HST).found (unhide HH1) (unhide HY).2.2.1 lp)
      have HCT := hide ((unhide HST).count (unhide HH1) (unhide HY).2.2.1 lp)
      have HORD := hide (show ∀ (i j : Nat) (a b : List UInt8 × List UInt8), i < j → (rb (rdf W4) (ranges T1 tl1 op))[i]? = some a → (rb (rdf W4) (ranges T1 tl1 op))[j]? = some b → Pl.lt a.2 b.1 ∧ a.2 ≠ [] from by
        intro i j a b hij ha hb
        obtain ⟨h1, rfl⟩ := List.getElem?_eq_some_iff.1 ha
        obtain ⟨h2, rfl⟩ := List.getElem?_eq_some_iff.1 hb
        exact List.pairwise_iff_getElem.1 ((unhide HST).order (unhide HH1) (unhide HY).2.2.1) i j h1 h2 hij)
      have HBD := hide ((unhide HST).bounded (tl := tl1) (unhide HH1))
      obtain ⟨inb, hinb⟩ : ∃ b, b = (putIn ls le lt op).any (hold lp) := ⟨_, rfl⟩
      rw [← hinb] at HFND ⊢
      clear hinb
      go_wp2_with fail
      go_loopw [18, 19] (fun v18 v19 wr => ∃ k h : Nat, k ≤ tot ∧ v19 = .int .i64 k ∧ v18 = .int .i64 h ∧ h ≤ k ∧ Hid (h = ((rb (rdf W4) (ranges T1 tl1 op)).take k).countP (hold lp)) ∧ Hid (∃ m, wr = W7.drewN m)) (fun _ v _ => tot - (intOf v).toNat)
      case atStart => exact ⟨0, 0, Nat.zero_le _, rfl, rfl, Nat.le_refl _, hide rfl, HWC⟩
      case round =>
      obtain ⟨k, h, hk, rfl, rfl, hhk, HCN, HWE⟩ := hrel
      by_cases hkl : k < tot
      · obtain ⟨m, hm⟩ := unhide HWE
        have HW := hide hm
        clear hm
        obtain ⟨b5, o5, x, rfl, hc5, k5⟩ := (unhide HFS).at hkl
        obtain ⟨b6, o6, z, rfl, hc6, k6⟩ := (unhide HFE).at hkl
        rw [List.getElem?_map] at k5 k6
        obtain ⟨r, hr, er⟩ := Option.map_eq_some_iff.1 k5
        obtain ⟨r', hr', er'⟩ := Option.map_eq_some_iff.1 k6
        rw [hr] at hr'
        cases hr'
        have hrb : (rb (rdf W4) (ranges T1 tl1 op))[k]? = some (rdf W4 x, rdf W4 z) := by unfold rb; rw [List.getElem?_map, hr, ← er, ← er']; rfl
        have hcn : ((rb (rdf W4) (ranges T1 tl1 op)).take (k + 1)).countP (hold lp) = ((rb (rdf W4) (ranges T1 tl1 op)).take k).countP (hold lp) + if hold lp (rdf W4 x, rdf W4 z) = true then 1 else 0 := by
          obtain ⟨h1, h2⟩ := List.getElem?_eq_some_iff.1 hrb
          rw [List.take_succ_eq_append_getElem h1, List.countP_append, h2, List.countP_cons, List.countP_nil, Nat.zero_add]
        rw [← unhide HCN] at hcn
        have p1 : wr.cell? ⟨b5, o5 + k, none⟩ = some (.slice x.a x.n x.c) := by rw [unhide HW]; exact hc5
        have p2 : wr.cell? ⟨b6, o6 + k, none⟩ = some (.slice z.a z.n z.c) := by rw [unhide HW]; exact hc6
        have FW : Fr (fun _ => False) W4 wr := by rw [unhide HW]; exact (unhide HF47).drewN _
        have G0 := (unhide HGR) r (List.mem_of_getElem? hr)
        rw [er, er'] at G0
        have GX : Hid (Good W4 wr x) := hide (G0.1.frame FW)
        have GZ : Hid (Good W4 wr z) := hide (G0.2.frame FW)
        have GP : Byt wr ⟨pa, pn, pc⟩ lp := by rw [unhide HW]; exact (unhide HPR).1
        have EZN := hide (show (rdf W4 z).length = z.n from (unhide GZ).1.1)
        have hzm : (z.n : Int) ≤ 9223372036854775807 := by have := (unhide GZ).2; unfold maxLen at this; omega
        obtain ⟨c5, e5⟩ : ∃ c, c = Pl.cmp (rdf W4 x) lp := ⟨_, rfl⟩
        obtain ⟨c6, e6⟩ : ∃ c, c = Pl.cmp lp (rdf W4 z) := ⟨_, rfl⟩
        obtain ⟨c7, e7⟩ : ∃ c, c = Pl.cmp (rdf W4 x) (rdf W4 z) := ⟨_, rfl⟩
        have HC5 := hide (cmpIs wr x ⟨pa, pn, pc⟩ _ lp (unhide GX).1 GP (unhide GX).2 (unhide HPR).2).drew
        have HC6 := hide (cmpIs wr ⟨pa, pn, pc⟩ z lp _ GP (unhide GZ).1 (unhide HPR).2 (unhide GZ).2)
        have HD := hide ((unhide GX).cmp (unhide GZ)).drew
        rw [← e5] at HC5; rw [← e6] at HC6; rw [← e7] at HD
        have E5 := hide e5; have E6 := hide e6; have E7 := hide e7; have HRB := hide hrb; have HFW := hide FW
        have HCN' := hide hcn
        clear HCN
        have HCN := HCN'
        clear hc5 hc6 k5 k6 hr er er' hrb hcn FW G0 GP e5 e6 e7 HCN'
        by_cases hz : 0 < z.n
        rotate_left
        · as_aux_lemma =>
          have hz1 : z.n = 0 := by omega
          have hz9 : decide (0 < z.n) = false := by rw [decide_eq_false_iff_not]; omega
          have hz0 : decide (0 < (z.n : Int)) = false := by rw [decide_eq_false_iff_not]; omega
          have hz0' : ¬ 0 < (z.n : Int) := by omega
          have EZ := hide (show (rdf W4 z).isEmpty = true from by rw [List.isEmpty_iff_length_eq_zero, unhide EZN, hz1])
          have hlast : (k : Int) = (tot : Int) - 1 := by
            by_cases hh : k + 1 < tot
            · obtain ⟨r', hr'⟩ : ∃ r', (rb (rdf W4) (ranges T1 tl1 op))[k + 1]? = some r' := ⟨_, List.getElem?_eq_getElem (by unfold rb; rw [List.length_map, unhide HR1]; exact hh)⟩
              have := (unhide HORD) k (k + 1) _ r' (by omega) (unhide HRB) hr'
              exact absurd (List.isEmpty_iff.1 (unhide EZ)) this.2
            · omega
          have hlast' : ((k : Int) != (tot : Int) - 1) = false := by rw [hlast]; simp
          clear hz hz1 hlast
          by_cases hi0 : k = 0
          · skip
            have hk9 : decide (0 < k) = false := by rw [decide_eq_false_iff_not]; omega
            have hk0 : decide (0 < (k : Int)) = false := by rw [decide_eq_false_iff_not]; omega
            have hk0' : ¬ 0 < (k : Int) := by omega
            clear hi0
            by_cases d5 : c5 ≤ 0
            · skip
              have HHOLD := hide (show (if hold lp (rdf W4 x, rdf W4 z) = true then 1 else 0) = 1 from by have e : hold lp (rdf W4 x, rdf W4 z) = true := (by unfold hold; simp only [← unhide E5, ← unhide E6, unhide EZ]; rw [decide_eq_true (show c5 ≤ 0 by omega)]; simp); rw [e]; simp)
              go_wp2_with fail
              go_quiet (fail)
              go_wp2_with fail
              go_quiet (fail)
              go_wp2_with fail
              refine ((unhide HC5) _).mono ?_
              rintro e W8 ⟨rfl, m8, hW8⟩
              have HW8 := hide (show ∃ m, W8 = W7.drewN m from ⟨_, by rw [hW8, unhide HW, World.drewN_drewN, World.drewN_drewN]⟩)
              clear hW8
              go_wp2_with fail
              go_roundw
              case rel => exact ⟨k + 1, h + 1, by omega, by go_num, by go_num, by omega, hide (by rw [unhide HCN, unhide HHOLD]; try rfl), HW8⟩
              case measure => simp [intOf]; omega
            · skip
              have HHOLD := hide (show (if hold lp (rdf W4 x, rdf W4 z) = true then 1 else 0) = 0 from by have e : hold lp (rdf W4 x, rdf W4 z) = false := (by unfold hold; simp only [← unhide E5, ← unhide E6, unhide EZ]; rw [decide_eq_false (show ¬ c5 ≤ 0 by omega)]; simp); rw [e]; simp)
              go_wp2_with fail
              go_quiet (fail)
              go_wp2_with fail
              go_quiet (fail)
              go_wp2_with fail
              refine ((unhide HC5) _).mono ?_
              rintro e W8 ⟨rfl, m8, hW8⟩
              have HW8 := hide (show ∃ m, W8 = W7.drewN m from ⟨_, by rw [hW8, unhide HW, World.drewN_drewN, World.drewN_drewN]⟩)
              clear hW8
              go_wp2_with fail
              go_roundw
              case rel => exact ⟨k + 1, h, by omega, by go_num, rfl, by omega, hide (by rw [unhide HCN, unhide HHOLD]; try rfl), HW8⟩
              case measure => simp [intOf]; omega
          · skip
            have hk9 : decide (0 < k) = true := by rw [decide_eq_true_iff]; omega
            have hk0 : decide (0 < (k : Int)) = true := by rw [decide_eq_true_iff]; omega
            have hk0' : 0 < (k : Int) := by omega
            obtain ⟨kp, hkp⟩ : ∃ kp : Nat, kp + 1 = k := ⟨k - 1, by omega⟩
            have hkp2 : (k : Int) - 1 = (kp : Int) := by omega
            obtain ⟨b8, o8, z8, e8, hc8, k8⟩ := (unhide HFE).at (show kp < tot by omega)
            cases e8
            rw [List.getElem?_map] at k8
            obtain ⟨r8, hr8, er8⟩ := Option.map_eq_some_iff.1 k8
            have p8 : wr.cell? ⟨b6, o6 + kp, none⟩ = some (.slice z8.a z8.n z8.c) := by rw [unhide HW]; exact hc8
            have hrb8 : (rb (rdf W4) (ranges T1 tl1 op))[kp]? = some (rdf W4 r8.1, rdf W4 r8.2) := by unfold rb; rw [List.getElem?_map, hr8]; rfl
            have ho8 := (unhide HORD) kp k _ _ (by omega) hrb8 (unhide HRB)
            have G8 : Good W4 wr z8 := by rw [← er8]; exact ((unhide HGR) r8 (List.mem_of_getElem? hr8)).2.frame (unhide HFW)
            obtain ⟨c9, e9⟩ : ∃ c, c = Pl.cmp (rdf W4 z8) (rdf W4 x) := ⟨_, rfl⟩
            have h9 : c9 < 0 := by rw [e9, ← er8]; exact ho8.1
            have hd9 : decide (0 ≤ c9) = false := by rw [decide_eq_false_iff_not]; omega
            have HE := hide (G8.cmp (unhide GX)).drew
            rw [← e9] at HE
            have hkpt : kp < tot := by omega
            clear hc8 k8 hr8 er8 hrb8 ho8 G8 e9 hkp hi0
            by_cases d5 : c5 ≤ 0
            · skip
              have HHOLD := hide (show (if hold lp (rdf W4 x, rdf W4 z) = true then 1 else 0) = 1 from by have e : hold lp (rdf W4 x, rdf W4 z) = true := (by unfold hold; simp only [← unhide E5, ← unhide E6, unhide EZ]; rw [decide_eq_true (show c5 ≤ 0 by omega)]; simp); rw [e]; simp)
              go_wp2_with fail
              go_quiet (fail)
              go_wp2_with fail
              go_quiet ((go_at_call 16; with_reducible exact quiet_two (unhide HE _)))
              go_wp2_with fail
              refine ((unhide HC5) _).mono ?_
              rintro e W8 ⟨rfl, m8, hW8⟩
              have HW8 := hide (show ∃ m, W8 = W7.drewN m from ⟨_, by rw [hW8, unhide HW, World.drewN_drewN, World.drewN_drewN]⟩)
              clear hW8
              go_wp2_with fail
              go_roundw
              case rel => exact ⟨k + 1, h + 1, by omega, by go_num, by go_num, by omega, hide (by rw [unhide HCN, unhide HHOLD]; try rfl), HW8⟩
              case measure => simp [intOf]; omega
            · skip
              have HHOLD := hide (show (if hold lp (rdf W4 x, rdf W4 z) = true then 1 else 0) = 0 from by have e : hold lp (rdf W4 x, rdf W4 z) = false := (by unfold hold; simp only [← unhide E5, ← unhide E6, unhide EZ]; rw [decide_eq_false (show ¬ c5 ≤ 0 by omega)]; simp); rw [e]; simp)
              go_wp2_with fail
              go_quiet (fail)
              go_wp2_with fail
              go_quiet ((go_at_call 16; with_reducible exact quiet_two (unhide HE _)))
              go_wp2_with fail
              refine ((unhide HC5) _).mono ?_
              rintro e W8 ⟨rfl, m8, hW8⟩
              have HW8 := hide (show ∃ m, W8 = W7.drewN m from ⟨_, by rw [hW8, unhide HW, World.drewN_drewN, World.drewN_drewN]⟩)
              clear hW8
              go_wp2_with fail
              go_roundw
              case rel => exact ⟨k + 1, h, by omega, by go_num, rfl, by omega, hide (by rw [unhide HCN, unhide HHOLD]; try rfl), HW8⟩
              case measure => simp [intOf]; omega
        · as_aux_lemma =>
          have hz9 : decide (0 < z.n) = true := by rw [decide_eq_true_iff]; omega
          have hz0 : decide (0 < (z.n : Int)) = true := by rw [decide_eq_true_iff]; omega
          have hz0' : 0 < (z.n : Int) := by omega
          have EZ := hide (show (rdf W4 z).isEmpty = false from by
            cases hh : rdf W4 z with
            | nil => have := unhide EZN; rw [hh] at this; simp at this; omega
            | cons a b => rfl)
          have hdlt : c7 < 0 := by
            have := (unhide HBD) _ (List.mem_of_getElem? (unhide HRB)) (fun e => by have := unhide EZ; rw [show (rdf W4 z) = [] from e] at this; simp at this)
            rw [unhide E7]; exact this
          have hd7 : decide (0 ≤ c7) = false := by rw [decide_eq_false_iff_not]; omega
          clear hz
          by_cases hi0 : k = 0
          · skip
            have hk9 : decide (0 < k) = false := by rw [decide_eq_false_iff_not]; omega
            have hk0 : decide (0 < (k : Int)) = false := by rw [decide_eq_false_iff_not]; omega
            have hk0' : ¬ 0 < (k : Int) := by omega
            clear hi0
            by_cases d5 : c5 ≤ 0
            · by_cases d6 : c6 < 0
              · skip
                have HHOLD := hide (show (if hold lp (rdf W4 x, rdf W4 z) = true then 1 else 0) = 1 from by have e : hold lp (rdf W4 x, rdf W4 z) = true := (by unfold hold; simp only [← unhide E5, ← unhide E6, unhide EZ]; rw [decide_eq_true (show c5 ≤ 0 by omega), decide_eq_true (show c6 < 0 by omega)]; simp); rw [e]; simp)
                go_wp2_with fail
                go_quiet ((go_at_call 16; with_reducible exact Calls.quiet_of (unhide HD _)))
                go_wp2_with fail
                go_quiet (fail)
                go_wp2_with fail
                refine ((unhide HC5) _).mono ?_
                rintro e W8 ⟨rfl, m8, hW8⟩
                have HW8 := hide (show ∃ m, W8 = W7.drewN m from ⟨_, by rw [hW8, unhide HW, World.drewN_drewN, World.drewN_drewN]⟩)
                have p2' : W8.cell? ⟨b6, o6 + k, none⟩ = some (.slice z.a z.n z.c) := by rw [hW8]; exact p2
                have HC6' := hide ((unhide HC6) W8 (by rw [hW8]; rfl))
                clear hW8
                go_wp2_with fail
                refine (unhide HC6').mono ?_
                rintro e W9 ⟨rfl, m9, hW9⟩
                have HW9 := hide (show ∃ m, W9 = W7.drewN m from by obtain ⟨m, hm⟩ := unhide HW8; exact ⟨_, by rw [hW9, hm, World.drewN_drewN]⟩)
                clear hW9
                go_wp2_with fail
                go_roundw
                case rel => exact ⟨k + 1, h + 1, by omega, by go_num, by go_num, by omega, hide (by rw [unhide HCN, unhide HHOLD]; try rfl), HW9⟩
                case measure => simp [intOf]; omega
              · skip
                have HHOLD := hide (show (if hold lp (rdf W4 x, rdf W4 z) = true then 1 else 0) = 0 from by have e : hold lp (rdf W4 x, rdf W4 z) = false := (by unfold hold; simp only [← unhide E5, ← unhide E6, unhide EZ]; rw [decide_eq_true (show c5 ≤ 0 by omega), decide_eq_false (show ¬ c6 < 0 by omega)]; simp); rw [e]; simp)
                go_wp2_with fail
                go_quiet ((go_at_call 16; with_reducible exact Calls.quiet_of (unhide HD _)))
                go_wp2_with fail
                go_quiet (fail)
                go_wp2_with fail
                refine ((unhide HC5) _).mono ?_
                rintro e W8 ⟨rfl, m8, hW8⟩
                have HW8 := hide (show ∃ m, W8 = W7.drewN m from ⟨_, by rw [hW8, unhide HW, World.drewN_drewN, World.drewN_drewN]⟩)
                have p2' : W8.cell? ⟨b6, o6 + k, none⟩ = some (.slice z.a z.n z.c) := by rw [hW8]; exact p2
                have HC6' := hide ((unhide HC6) W8 (by rw [hW8]; rfl))
                clear hW8
                go_wp2_with fail
                refine (unhide HC6').mono ?_
                rintro e W9 ⟨rfl, m9, hW9⟩
                have HW9 := hide (show ∃ m, W9 = W7.drewN m from by obtain ⟨m, hm⟩ := unhide HW8; exact ⟨_, by rw [hW9, hm, World.drewN_drewN]⟩)
                clear hW9
                go_wp2_with fail
                go_roundw
                case rel => exact ⟨k + 1, h, by omega, by go_num, rfl, by omega, hide (by rw [unhide HCN, unhide HHOLD]; try rfl), HW9⟩
                case measure => simp [intOf]; omega
            · skip
              have HHOLD := hide (show (if hold lp (rdf W4 x, rdf W4 z) = true then 1 else 0) = 0 from by have e : hold lp (rdf W4 x, rdf W4 z) = false := (by unfold hold; simp only [← unhide E5, ← unhide E6, unhide EZ]; rw [decide_eq_false (show ¬ c5 ≤ 0 by omega)]; simp); rw [e]; simp)
              go_wp2_with fail
              go_quiet ((go_at_call 16; with_reducible exact Calls.quiet_of (unhide HD _)))
              go_wp2_with fail
              go_quiet (fail)
              go_wp2_with fail
              refine ((unhide HC5) _).mono ?_
              rintro e W8 ⟨rfl, m8, hW8⟩
              have HW8 := hide (show ∃ m, W8 = W7.drewN m from ⟨_, by rw [hW8, unhide HW, World.drewN_drewN, World.drewN_drewN]⟩)
              clear hW8
              go_wp2_with fail
              go_roundw
              case rel => exact ⟨k + 1, h, by omega, by go_num, rfl, by omega, hide (by rw [unhide HCN, unhide HHOLD]; try rfl), HW8⟩
              case measure => simp [intOf]; omega
          · skip
            have hk9 : decide (0 < k) = true := by rw [decide_eq_true_iff]; omega
            have hk0 : decide (0 < (k : Int)) = true := by rw [decide_eq_true_iff]; omega
            have hk0' : 0 < (k : Int) := by omega
            obtain ⟨kp, hkp⟩ : ∃ kp : Nat, kp + 1 = k := ⟨k - 1, by omega⟩
            have hkp2 : (k : Int) - 1 = (kp : Int) := by omega
            obtain ⟨b8, o8, z8, e8, hc8, k8⟩ := (unhide HFE).at (show kp < tot by omega)
            cases e8
            rw [List.getElem?_map] at k8
            obtain ⟨r8, hr8, er8⟩ := Option.map_eq_some_iff.1 k8
            have p8 : wr.cell? ⟨b6, o6 + kp, none⟩ = some (.slice z8.a z8.n z8.c) := by rw [unhide HW]; exact hc8
            have hrb8 : (rb (rdf W4) (ranges T1 tl1 op))[kp]? = some (rdf W4 r8.1, rdf W4 r8.2) := by unfold rb; rw [List.getElem?_map, hr8]; rfl
            have ho8 := (unhide HORD) kp k _ _ (by omega) hrb8 (unhide HRB)
            have G8 : Good W4 wr z8 := by rw [← er8]; exact ((unhide HGR) r8 (List.mem_of_getElem? hr8)).2.frame (unhide HFW)
            obtain ⟨c9, e9⟩ : ∃ c, c = Pl.cmp (rdf W4 z8) (rdf W4 x) := ⟨_, rfl⟩
            have h9 : c9 < 0 := by rw [e9, ← er8]; exact ho8.1
            have hd9 : decide (0 ≤ c9) = false := by rw [decide_eq_false_iff_not]; omega
            have HE := hide (G8.cmp (unhide GX)).drew
            rw [← e9] at HE
            have hkpt : kp < tot := by omega
            clear hc8 k8 hr8 er8 hrb8 ho8 G8 e9 hkp hi0
            by_cases d5 : c5 ≤ 0
            · by_cases d6 : c6 < 0
              · skip
                have HHOLD := hide (show (if hold lp (rdf W4 x, rdf W4 z) = true then 1 else 0) = 1 from by have e : hold lp (rdf W4 x, rdf W4 z) = true := (by unfold hold; simp only [← unhide E5, ← unhide E6, unhide EZ]; rw [decide_eq_true (show c5 ≤ 0 by omega), decide_eq_true (show c6 < 0 by omega)]; simp); rw [e]; simp)
                go_wp2_with fail
                go_quiet ((go_at_call 16; with_reducible exact Calls.quiet_of (unhide HD _)))
                go_wp2_with fail
                go_quiet ((go_at_call 16; with_reducible exact quiet_two (unhide HE _)))
                go_wp2_with fail
                refine ((unhide HC5) _).mono ?_
                rintro e W8 ⟨rfl, m8, hW8⟩
                have HW8 := hide (show ∃ m, W8 = W7.drewN m from ⟨_, by rw [hW8, unhide HW, World.drewN_drewN, World.drewN_drewN]⟩)
                have p2' : W8.cell? ⟨b6, o6 + k, none⟩ = some (.slice z.a z.n z.c) := by rw [hW8]; exact p2
                have HC6' := hide ((unhide HC6) W8 (by rw [hW8]; rfl))
                clear hW8
                go_wp2_with fail
                refine (unhide HC6').mono ?_
                rintro e W9 ⟨rfl, m9, hW9⟩
                have HW9 := hide (show ∃ m, W9 = W7.drewN m from by obtain ⟨m, hm⟩ := unhide HW8; exact ⟨_, by rw [hW9, hm, World.drewN_drewN]⟩)
                clear hW9
                go_wp2_with fail
                go_roundw
                case rel => exact ⟨k + 1, h + 1, by omega, by go_num, by go_num, by omega, hide (by rw [unhide HCN, unhide HHOLD]; try rfl), HW9⟩
                case measure => simp [intOf]; omega
              · skip
                have HHOLD := hide (show (if hold lp (rdf W4 x, rdf W4 z) = true then 1 else 0) = 0 from by have e : hold lp (rdf W4 x, rdf W4 z) = false := (by unfold hold; simp only [← unhide E5, ← unhide E6, unhide EZ]; rw [decide_eq_true (show c5 ≤ 0 by omega), decide_eq_false (show ¬ c6 < 0 by omega)]; simp); rw [e]; simp)
                go_wp2_with fail
                go_quiet ((go_at_call 16; with_reducible exact Calls.quiet_of (unhide HD _)))
                go_wp2_with fail
                go_quiet ((go_at_call 16; with_reducible exact quiet_two (unhide HE _)))
                go_wp2_with fail
                refine ((unhide HC5) _).mono ?_
                rintro e W8 ⟨rfl, m8, hW8⟩
                have HW8 := hide (show ∃ m, W8 = W7.drewN m from ⟨_, by rw [hW8, unhide HW, World.drewN_drewN, World.drewN_drewN]⟩)
                have p2' : W8.cell? ⟨b6, o6 + k, none⟩ = some (.slice z.a z.n z.c) := by rw [hW8]; exact p2
                have HC6' := hide ((unhide HC6) W8 (by rw [hW8]; rfl))
                clear hW8
                go_wp2_with fail
                refine (unhide HC6').mono ?_
                rintro e W9 ⟨rfl, m9, hW9⟩
                have HW9 := hide (show ∃ m, W9 = W7.drewN m from by obtain ⟨m, hm⟩ := unhide HW8; exact ⟨_, by rw [hW9, hm, World.drewN_drewN]⟩)
                clear hW9
                go_wp2_with fail
                go_roundw
                case rel => exact ⟨k + 1, h, by omega, by go_num, rfl, by omega, hide (by rw [unhide HCN, unhide HHOLD]; try rfl), HW9⟩
                case measure => simp [intOf]; omega
            · skip
              have HHOLD := hide (show (if hold lp (rdf W4 x, rdf W4 z) = true then 1 else 0) = 0 from by have e : hold lp (rdf W4 x, rdf W4 z) = false := (by unfold hold; simp only [← unhide E5, ← unhide E6, unhide EZ]; rw [decide_eq_false (show ¬ c5 ≤ 0 by omega)]; simp); rw [e]; simp)
              go_wp2_with fail
              go_quiet ((go_at_call 16; with_reducible exact Calls.quiet_of (unhide HD _)))
              go_wp2_with fail
              go_quiet ((go_at_call 16; with_reducible exact quiet_two (unhide HE _)))
              go_wp2_with fail
              refine ((unhide HC5) _).mono ?_
              rintro e W8 ⟨rfl, m8, hW8⟩
              have HW8 := hide (show ∃ m, W8 = W7.drewN m from ⟨_, by rw [hW8, unhide HW, World.drewN_drewN, World.drewN_drewN]⟩)
              clear hW8
              go_wp2_with fail
              go_roundw
              case rel => exact ⟨k + 1, h, by omega, by go_num, rfl, by omega, hide (by rw [unhide HCN, unhide HHOLD]; try rfl), HW8⟩
              case measure => simp [intOf]; omega
      · as_aux_lemma =>
        have hkt : k = tot := by omega
        have hh : h = (rb (rdf W4) (ranges T1 tl1 op)).countP (hold lp) := by
          have := unhide HCN
          rw [hkt, List.take_of_length_le (by unfold rb; rw [List.length_map, unhide HR1]; exact Nat.le_refl _)] at this
          exact this
        have hle : h ≤ 1 := by rw [hh]; exact unhide HCT
        have hfn : decide (h = 1) = inb := by rw [hh]; exact unhide HFND
        obtain ⟨m, hm⟩ := unhide HWE
        have HFW := hide (show Fr (fun _ => False) w wr from (unhide HST).fr.trans (show Fr (fun _ => False) W4 wr from by rw [hm]; exact (unhide HF47).drewN _) (fun _ _ e => e))
        clear hh hm hkt hhk HCN
        rcases (show h = 0 ∨ h = 1 by omega) with rfl | rfl
        · simp at hfn
          subst hfn
          go_wp2_with fail
          go_ret
          exact ⟨rfl, unhide HFW⟩
        · simp at hfn
          subst hfn
          go_wp2_with fail
          go_ret
          exact ⟨rfl, unhide HFW⟩
end Go.Proofs.Qxb6615626a.BA
