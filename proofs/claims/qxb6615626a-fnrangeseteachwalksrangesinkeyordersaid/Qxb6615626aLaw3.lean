/-
  FnRangeSetEachWalksRangesInKeyOrder: the walk.
-/
import Derived.Test.Qxb6615626aLaw0
import Derived.Test.Qxb6615626aBya
import Derived.Deep.DeepCutAuto
namespace Go.Proofs.Qxb6615626a.BA
open Go.RowKit
set_option linter.unusedVariables false

set_option maxRecDepth 20000 in
set_option maxHeartbeats 8000000 in
theorem law3_any (s e t : Sl) (ss es : List Sl) (ls le : List (List UInt8)) (lt : List UInt8) (op : Bool) (stop : Int) (w : World) (h1 : LstW w s ss ls) (h2 : LstW w e es le) (h3 : BytW w t lt) (hn1 : s.n ≤ maxLen) (hn2 : e.n ≤ maxLen) (hn3 : t.n ≤ maxLen)
    (hst1 : -9223372036854775808 ≤ stop) (hst2 : stop ≤ 9223372036854775807) :
    Calls Try.prog 3 #[s.v, e.v, t.v, .bool op, .int .i64 stop] w (TruePost w) := by
  have HZ := hide (zzBytes9 s ss e es t (.bool op) (.int .i64 stop) w h1.lst h1.small hn1 h2.lst h2.small hn2 hn3)
  have HFT := hide (zzRangesFit_any s e t Sl.nil ss es w h1.lst h2.lst h1.small h2.small hn1 hn2 hn3 (by unfold maxLen; exact Nat.zero_le _))
  have H1 := hide h1; have H2 := hide h2; have H3 := hide h3; have HN3 := hide hn3
  clear h1 h2 h3 hn1 hn2 hn3
  go_enter Try.func3, Try.ntmps3
  go_wp2_with fail
  refine (unhide HZ).mono ?_
  rintro r W ⟨hW, b, rfl⟩
  rw [hW]; clear hW W HZ
  cases b with
  | false =>
    go_wp2_with fail
    go_ret
    exact ⟨rfl, Fr.refl _ w⟩
  | true =>
  go_wp2_with fail
  refine (unhide HFT).mono ?_
  rintro r W ⟨hW, b, rfl, hb⟩
  rw [hW]; clear hW W HFT
  cases b with
  | false =>
    go_wp2_with fail
    go_ret
    exact ⟨rfl, Fr.refl _ w⟩
  | true =>
  obtain ⟨f1, f2, f3, _, f5, f6⟩ := hb rfl
  clear hb
  have HROK := hide (zzRangesOK_any s e t ss es ls le lt op w (unhide H1) (unhide H2) (unhide H3) f2 f1 (unhide HN3))
  have HF := hide (⟨f1, f2, f3, f5, f6⟩ : s.n ≤ 1024 ∧ e.n = s.n ∧ t.n ≤ 1048576 ∧ (∀ t ∈ ss, t.n ≤ 1048576) ∧ ∀ t ∈ es, t.n ≤ 1048576)
  clear f1 f2 f3 f5 f6
  go_wp2_with fail
  refine (unhide HROK).mono ?_
  rintro r W1 ⟨⟨m1, hW1⟩, b, rfl, hb⟩
  have FR1 : Fr (fun _ => False) w W1 := by rw [hW1]; exact (Fr.refl _ w).drewN m1
  clear hW1 HROK
  cases b with
  | false =>
    have HFR1 := hide FR1
    clear FR1
    go_wp2_with fail
    go_ret
    exact ⟨rfl, unhide HFR1⟩
  | true =>
  have HR := hide (hb rfl)
  have HC1 := hide (zzCloneAll_any s ss ls W1 ((unhide H1).frame FR1) (by have := (unhide HF).1; omega) (unhide HF).2.2.2.1)
  have HFR1 := hide FR1
  clear FR1 hb
  go_wp2_with fail
  refine (unhide HC1).mono ?_
  rintro r W2 ⟨s1, ss1, rfl, c1, c2, c3, c4, c5⟩
  have FR2 : Fr (fun _ => False) w W2 := (unhide HFR1).trans c4 (fun _ _ e => e)
  have HC2 := hide (zzCloneAll_any e es le W2 ((unhide H2).frame FR2) (by have := (unhide HF).1; have := (unhide HF).2.1; omega) (unhide HF).2.2.2.2)
  have HS1 := hide (⟨c1, c2, c5⟩ : s1.n = s.n ∧ LstB W2 s1 ss1 ls ∧ ∀ t ∈ ss1, t.n ≤ 1048576); have HFR2 := hide FR2
  clear c1 c2 c3 c4 c5 FR2 HC1 HFR1
  go_wp2_with fail
  refine (unhide HC2).mono ?_
  rintro r W3 ⟨e1, es1, rfl, c1, c2, c3, c4, c5⟩
  have FR3 : Fr (fun _ => False) w W3 := (unhide HFR2).trans c4 (fun _ _ e => e)
  have HC3 := hide (zzClone_weak t lt W3 ((unhide H3).frame FR3) (unhide HF).2.2.1)
  have HS2 := hide (⟨c1, c2, c5, fun t ht => (c3 t ht).imp id (fun h => ⟨Nat.le_trans (unhide HFR2).size h.1, h.2⟩), (unhide HS1).2.1.frame c4⟩ : e1.n = e.n ∧ LstB W3 e1 es1 le ∧ (∀ t ∈ es1, t.n ≤ 1048576) ∧ (∀ t ∈ es1, t.made w.heap.size W3.heap.size) ∧ LstB W3 s1 ss1 ls); have HFR3 := hide FR3
  clear c1 c2 c3 c4 c5 FR3 HC2 HFR2
  go_wp2_with fail
  refine (unhide HC3).mono ?_
  rintro r W4 ⟨t1, rfl, c1, c2, c3, c4⟩
  have HST : Hid (RStart w W4 s1 e1 t1 ss1 es1 ls le lt op) := hide (by
    obtain ⟨a1, a2, a3⟩ := unhide HS1
    obtain ⟨b1, b2, b3, b4, b5⟩ := unhide HS2
    obtain ⟨d1, d2, d3, d4, d5⟩ := unhide HF
    exact ⟨(unhide HFR3).trans c4 (fun _ _ e => e), b5.frame c4, b2.frame c4, c1, by omega, by omega, unhide HR, b3, a3, by omega, fun t ht => (b4 t ht).imp id (fun h => ⟨h.1, Nat.lt_of_lt_of_le h.2 c4.size⟩)⟩)
  clear c1 c2 c3 c4 HC3 HS1 HS2 HF HR HFR3 H1 H2 H3 HN3
  obtain ⟨sa, en, sc⟩ := s1
  obtain ⟨ea, en2, ec⟩ := e1
  obtain ⟨ta, tn, tc⟩ := t1
  have hns : en = en2 := (unhide HST).ns
  subst hns
  have hen : en ≤ 1024 := (unhide HST).n1
  simp only [Sl.v]
  have HRS1 := hide (zzRangeSet_any (rdf W4) (· ∈ es1) ⟨sa, en, sc⟩ ⟨ea, en, ec⟩ ⟨ta, tn, tc⟩ ss1 es1 op false W4 (unhide HST).hs.lst (unhide HST).he.lst rfl hen ((unhide HST).kok W4 (Fr.refl _ W4)) (fun s hs => Nat.le_trans ((unhide HST).sm s hs) (by unfold maxLen; omega)) (fun t ht => ht))
  go_wp2_with fail
  refine (unhide HRS1).mono ?_
  rintro r W5 ⟨rb1, eb1, T1, tl1, rfl, x1, x2, x3, x4, x5, x6⟩
  have HRS2 := hide (zzRangeSet_any (rdf W4) (· ∈ es1) ⟨sa, en, sc⟩ ⟨ea, en, ec⟩ ⟨ta, tn, tc⟩ ss1 es1 op true W5 ((unhide HST).hs.lst.frame x5) ((unhide HST).he.lst.frame x5) rfl hen ((unhide HST).kok W5 x5) (fun s hs => Nat.le_trans ((unhide HST).sm s hs) (by unfold maxLen; omega)) (fun t ht => ht))
  have HX := hide (⟨x1, x2, x3, x4, x5⟩ : Ok (rdf W4) (· ∈ es1) W4.heap.size W5 eb1 T1 ∧ T1.es = insAll (rdf W4) [] (ordOf es1 ss1 false) ∧ RsAt W5 rb1 eb1 tl1 op ∧ (op = true → tl1 = ⟨ta, tn, tc⟩) ∧ Fr (fun _ => False) W4 W5)
  clear x1 x2 x3 x4 x5 x6 HRS1
  go_wp2_with fail
  refine (unhide HRS2).mono ?_
  rintro r W6 ⟨rb2, eb2, T2, tl2, rfl, x1, x2, x3, x4, x5, x6⟩
  have HL := hide (unhide HST).len
  have HH1 := hide (held_of (unhide HX).2.1 (unhide HST).fe (unhide HST).rok (by have := unhide HL; omega))
  have HH2 := hide (held_of x2 (unhide HST).fe (unhide HST).rok (by have := unhide HL; omega))
  have hlT1 : T1.es.length = en := by have := (unhide HH1).len (by have := unhide HL; omega); have := unhide HL; simp at this; omega
  have hlT2 : T2.es.length = en := by have := (unhide HH2).len (by have := unhide HL; omega); have := unhide HL; simp at this; omega
  have HY := hide (⟨(unhide HX).1.fr x5 (fun _ _ e => e), (unhide HX).2.2.1.fr x5 (fun e => e), (unhide HX).2.2.2.1, x1, x3, x4, (unhide HX).2.2.2.2.trans x5 (fun _ _ e => e), (unhide HX).2.2.2.2, x5⟩ : Ok (rdf W4) (· ∈ es1) W4.heap.size W6 eb1 T1 ∧ RsAt W6 rb1 eb1 tl1 op ∧ (op = true → tl1 = ⟨ta, tn, tc⟩) ∧ Ok (rdf W4) (· ∈ es1) W5.heap.size W6 eb2 T2 ∧ RsAt W6 rb2 eb2 tl2 op ∧ (op = true → tl2 = ⟨ta, tn, tc⟩) ∧ Fr (fun _ => False) W4 W6 ∧ Fr (fun _ => False) W4 W5 ∧ Fr (fun _ => False) W5 W6)
  obtain ⟨tot, htot⟩ : ∃ tot : Nat, tot = en + if op then 1 else 0 := ⟨_, rfl⟩
  have HR1 := hide (show (ranges T1 tl1 op).length = tot from by rw [length_ranges, hlT1, htot])
  have HR2 := hide (show (ranges T2 tl2 op).length = tot from by rw [length_ranges, hlT2, htot])
  have HT1 := hide hlT1; have HT2 := hide hlT2; have HTOT := hide htot
  clear x1 x2 x3 x4 x5 x6 HRS2 HX hlT1 hlT2 htot
  go_upto_if 64 with fail
  go_cut [14] (fun v wc => v = .int .i64 tot ∧ wc = W6)
  case first =>
    cases op with
    | true =>
      go_wp2_with fail
      go_meet
      case rel => exact ⟨by have := unhide HTOT; simp at this; rw [this]; go_num, rfl⟩
    | false =>
      go_wp2_with fail
      go_meet
      case rel => exact ⟨by have := unhide HTOT; simp at this; rw [this], rfl⟩
  case rest =>
  as_aux_lemma =>
  obtain ⟨rfl, rfl⟩ := hcut
  have htt : tot ≤ 1025 := by have := unhide HTOT; split at this <;> omega
  have HK1 := hide ((unhide HY).1.keys)
  have HGR := hide ((unhide HST).goodR (unhide HH1) (unhide HK1) (unhide HY).2.2.1)
  have HE1 := hide (zzEach_any (rdf W4) (· ∈ es1) W4.heap.size eb1 T1 wc rb1 tl1 op ((tot : Int) + 1) (unhide HY).1 (((unhide HST).kok W4 (Fr.refl _ W4)).fr (unhide HY).2.2.2.2.2.2.1 (fun _ _ e => e)) (by rw [unhide HT1]; omega) (rdf_nil W4) (unhide HY).2.1)
  go_wp2_with fail
  refine (unhide HE1).mono ?_
  intro r W7 hz
  obtain ⟨q1, q2⟩ := handed_all (n := tot) (stop := (tot : Int) + 1) (.inr (by omega))
  obtain ⟨fa, fb, fc, fd, rfl, y1, y2, y3⟩ := zeach_some hz tot tot (unhide HR1) q1
  rw [q2]
  rw [List.take_of_length_le (by rw [unhide HR1]; exact Nat.le_refl _)] at y1 y2
  have F47 : Fr (fun _ => False) W4 W7 := (unhide HY).2.2.2.2.2.2.1.trans y3 (fun _ _ e => e)
  have HF47 := hide F47
  have HFS := hide y1; have HFE := hide y2; have HFR7 := hide y3
  have HLS := hide ((unhide HST).hs.lst.frame F47); have HLE := hide ((unhide HST).he.lst.frame F47)
  clear hz q1 q2 y1 y2 y3 F47 HE1
  go_wp2_with fail
  go_loopw [18] (fun v18 wr => ∃ k m : Nat, k ≤ en ∧ v18 = .int .i64 k ∧ Hid (wr = W7.drewN m)) (fun v _ => en - (intOf v).toNat)
  case atStart => exact ⟨0, 0, Nat.zero_le _, rfl, hide rfl⟩
  case round =>
    obtain ⟨k, m, hk, rfl, HW⟩ := hrel
    by_cases hkl : k < en
    · as_aux_lemma =>
      obtain ⟨b1, o1, x, rfl, hc1, g1⟩ := (unhide HLS).at hkl
      obtain ⟨b2, o2, y, rfl, hc2, k1⟩ := (unhide HLE).at hkl
      have HC1 := hide hc1; have HC2 := hide hc2; have HG1 := hide g1; have HK1' := hide k1
      clear hc1 hc2 g1 k1
      go_wp2_with fail
      go_loopw [19, 20] (fun v19 v20 wr => ∃ j r m : Nat, j ≤ en ∧ v20 = .int .i64 j ∧ v19 = .int .i64 r ∧ r ≤ j ∧ Hid (r + rankOf (le.drop j) (rdf W4 y) = rankOf le (rdf W4 y)) ∧ Hid (wr = W7.drewN m)) (fun _ v _ => en - (intOf v).toNat)
      case atStart => exact ⟨0, 0, _, Nat.zero_le _, rfl, rfl, Nat.le_refl _, hide (by rw [List.drop_zero, Nat.zero_add]), HW⟩
      case round =>
        obtain ⟨j, r, m, hj, rfl, rfl, hrj, HCT, HW⟩ := hrel
        by_cases hjl : j < en
        · obtain ⟨b3, o3, y2, e3, hc3, k3⟩ := (unhide HLE).at hjl
          cases e3
          have z1 : wr.cell? ⟨b2, o2 + k, none⟩ = some (.slice y.a y.n y.c) := by rw [unhide HW]; exact unhide HC2
          have z2 : wr.cell? ⟨b2, o2 + j, none⟩ = some (.slice y2.a y2.n y2.c) := by rw [unhide HW]; exact hc3
          have hst := (unhide HST).rank_step (rdf W4 y) k3
          obtain ⟨c, hc⟩ : ∃ c, c = Pl.cmp (rdf W4 y2) (rdf W4 y) := ⟨_, rfl⟩
          have FW : Fr (fun _ => False) W4 wr := by rw [unhide HW]; exact (unhide HF47).drewN _
          have HA := hide (((((unhide HST).goodE y2 (List.mem_of_getElem? k3)).frame FW).cmp (((unhide HST).goodE y (List.mem_of_getElem? (unhide HK1'))).frame FW)).drew)
          rw [← hc] at hst HA
          have HSTEP := hide hst
          clear hst hc hc3 k3 FW
          by_cases hcc : c < 0
          · go_wp2_with fail
            go_quiet ((go_at_call 16; with_reducible exact Calls.quiet_of (unhide HA _)))
            go_wp2_with fail
            go_roundw
            case rel => exact ⟨j + 1, r + 1, _, by omega, by go_num, by go_num, by omega, hide (by have := unhide HSTEP; have := unhide HCT; rw [if_pos hcc] at *; omega), hide (by rw [unhide HW, World.drewN_drewN])⟩
            case measure => simp [intOf]; omega
          · go_wp2_with fail
            go_quiet ((go_at_call 16; with_reducible exact Calls.quiet_of (unhide HA _)))
            go_wp2_with fail
            go_roundw
            case rel => exact ⟨j + 1, r, _, by omega, by go_num, rfl, by omega, hide (by have h1 := unhide HSTEP; have h2 := unhide HCT; rw [if_neg (by omega)] at h1; omega), hide (by rw [unhide HW, World.drewN_drewN])⟩
            case measure => simp [intOf]; omega
        · have hje : j = en := by omega
          have hr : r = rankOf le (rdf W4 y) := by
            have h1 := unhide HCT
            have h2 := (unhide HST).len
            rw [hje, List.drop_eq_nil_iff.2 (by simp at h2; omega)] at h1
            unfold rankOf at h1 ⊢
            simp only [List.countP_nil] at h1
            omega
          obtain ⟨z, hz1, hz2, hz3⟩ := (unhide HST).rank_facts tl1 (unhide HH1) (unhide HG1) (unhide HK1')
          rw [← hr] at hz1 hz3
          rw [unhide HT1] at hz3
          have hrt : r < tot := by have := (List.getElem?_eq_some_iff.1 hz1).1; rw [unhide HR1] at this; exact this
          obtain ⟨b5, o5, x5, rfl, hc5, k5⟩ := (unhide HFS).at hrt
          obtain ⟨b6, o6, z6, rfl, hc6, k6⟩ := (unhide HFE).at hrt
          rw [List.getElem?_map, hz1] at k5 k6
          have hx5 : x = x5 := Option.some.inj k5
          have hz6 : z = z6 := Option.some.inj k6
          subst hx5 hz6
          have p1 : wr.cell? ⟨b5, o5 + r, none⟩ = some (.slice x.a x.n x.c) := by rw [unhide HW]; exact hc5
          have p2 : wr.cell? ⟨b6, o6 + r, none⟩ = some (.slice z.a z.n z.c) := by rw [unhide HW]; exact hc6
          have p3 : wr.cell? ⟨b1, o1 + k, none⟩ = some (.slice x.a x.n x.c) := by rw [unhide HW]; exact unhide HC1
          have p4 : wr.cell? ⟨b2, o2 + k, none⟩ = some (.slice y.a y.n y.c) := by rw [unhide HW]; exact unhide HC2
          have FW : Fr (fun _ => False) W4 wr := by rw [unhide HW]; exact (unhide HF47).drewN _
          have GX : Good W4 wr x := ((unhide HST).goodS x (List.mem_of_getElem? (unhide HG1))).frame FW
          have GY : Good W4 wr y := ((unhide HST).goodE y (List.mem_of_getElem? (unhide HK1'))).frame FW
          have GZ : Good W4 wr z := ((unhide HGR) _ (List.mem_of_getElem? hz1)).2.frame FW
          have HA := hide (GX.cmp GX).drew
          have HB := hide (GZ.cmp GY).drew
          rw [Pl.cmp_self] at HA
          rw [hz2, Pl.cmp_self] at HB
          clear hz1 hz2 hz3 k5 k6 hc5 hc6 FW GX GY GZ hr hje
          go_wp2_with fail
          go_quiet (first | (go_at_call 16; with_reducible exact Calls.quiet_of (unhide HA _)) | (go_at_call 16; with_reducible exact Calls.quiet_of (unhide HB _)))
          go_wp2_with fail
          go_roundw
          case rel => exact ⟨k + 1, _, by omega, by go_num, hide (by rw [unhide HW, World.drewN_drewN])⟩
          case measure => simp [intOf]; omega
    · go_upto_region 30 with fail
      go_cut [150] (fun v wc => v = .bool false ∧ Hid (∃ m, wc = W7.drewN m))
      case first =>
        as_aux_lemma =>
        cases op with
        | false =>
          go_wp2_with fail
          go_meet
          case rel => exact ⟨rfl, hide ⟨_, unhide HW⟩⟩
        | true =>
          have htot : tot = en + 1 := by have := unhide HTOT; simpa using this
          have hl9 := ranges_last T1 tl1
          rw [unhide HT1] at hl9
          obtain ⟨b5, o5, x5, rfl, hc5, k5⟩ := (unhide HFS).at (show en < tot by omega)
          obtain ⟨b6, o6, z6, rfl, hc6, k6⟩ := (unhide HFE).at (show en < tot by omega)
          rw [List.getElem?_map, hl9] at k5 k6
          have hx5 : tl1 = x5 := Option.some.inj k5
          have hz6 : Sl.nil = z6 := Option.some.inj k6
          subst hx5 hz6
          have htl : tl1 = ⟨ta, tn, tc⟩ := (unhide HY).2.2.1 rfl
          rw [htl] at hc5
          have p1 : wr.cell? ⟨b5, o5 + en, none⟩ = some (.slice ta tn tc) := by rw [unhide HW]; exact hc5
          have p2 : wr.cell? ⟨b6, o6 + en, none⟩ = some (.slice none 0 0) := by rw [unhide HW]; exact hc6
          have FW : Fr (fun _ => False) W4 wr := by rw [unhide HW]; exact (unhide HF47).drewN _
          have GT : Good W4 wr ⟨ta, tn, tc⟩ := (unhide HST).goodT.frame FW
          have HA := hide (GT.cmp GT)
          rw [Pl.cmp_self] at HA
          have hent : (en : Int) < (tot : Int) := by omega
          clear hl9 hc5 hc6 k5 k6 htl FW GT htot
          go_wp2_with fail
          refine (unhide HA _ rfl).mono ?_
          rintro e W9 ⟨rfl, m9, hW9⟩
          have q2 : W9.cell? ⟨b6, o6 + en, none⟩ = some (.slice none 0 0) := by rw [hW9]; exact p2
          have HW9 := hide (show ∃ m, W9 = W7.drewN m from ⟨_, by rw [hW9, unhide HW, World.drewN_drewN]⟩)
          clear hW9 p1 p2
          go_wp2_with fail
          go_meet
          case rel => exact ⟨rfl, HW9⟩
      case rest =>
      as_aux_lemma =>
      obtain ⟨rfl, HWC⟩ := hcut
      go_upto_region 33 with fail
      go_cut [158] (fun v wc => v = .bool (decide (0 < tot ∧ stop < (tot : Int))) ∧ Hid (∃ m, wc = W7.drewN m))
      case first =>
        by_cases c1 : 0 < tot
        · have c1' : decide (0 < (tot : Int)) = true := by rw [decide_eq_true_iff]; omega
          go_wp2_with fail
          go_meet
          case rel => exact ⟨congrArg Value.bool (by first | rfl | (rw [Bool.eq_iff_iff]; simp; omega)), HWC⟩
        · have c1' : decide (0 < (tot : Int)) = false := by rw [decide_eq_false_iff_not]; omega
          go_wp2_with fail
          go_meet
          case rel => exact ⟨congrArg Value.bool (by first | rfl | (rw [Bool.eq_iff_iff]; simp; omega)), HWC⟩
      case rest =>
      as_aux_lemma =>
      obtain ⟨rfl, HWC⟩ := hcut
      go_upto_if 158 with fail
      go_cut [21] (fun v wc => v = .int .i64 (handed tot stop : Nat) ∧ Hid (∃ m, wc = W7.drewN m))
      case first =>
        by_cases c1 : 0 < tot ∧ stop < (tot : Int)
        · have c1' : decide (0 < tot ∧ stop < (tot : Int)) = true := by rw [decide_eq_true_iff]; exact c1
          have C1 := hide c1
          clear c1
          by_cases c2 : stop < 1
          · go_wp2_with fail
            go_meet
            case rel => exact ⟨by unfold handed; rw [if_neg (by have := unhide C1; omega), if_pos c2]; first | rfl | done, HWC⟩
          · go_wp2_with fail
            go_meet
            case rel => exact ⟨by unfold handed; have := unhide C1; rw [if_neg (by omega), if_neg (by omega)]; congr 1; omega, HWC⟩
        · have c1' : decide (0 < tot ∧ stop < (tot : Int)) = false := by rw [decide_eq_false_iff_not]; exact c1
          have C1 := hide c1
          clear c1
          go_wp2_with fail
          go_meet
          case rel => exact ⟨by
            have := unhide C1
            unfold handed
            by_cases hz : tot = 0
            · rw [if_pos hz, hz]
            · rw [if_neg hz, if_neg (by omega)]; congr 1; omega, HWC⟩
      case rest =>
      as_aux_lemma =>
      obtain ⟨rfl, HWC⟩ := hcut
      go_upto_region 37 with fail
      go_cut [22] (fun v wc => v = .bool (saidAll tot stop) ∧ Hid (∃ m, wc = W7.drewN m))
      case first =>
        by_cases c1 : tot = 0
        · have c1' : ((tot : Int) == 0) = true := by simp [c1]
          have HS := hide (show saidAll tot stop = true from by unfold saidAll; simp [c1])
          clear c1
          go_wp2_with fail
          go_meet
          case rel => exact ⟨by rw [unhide HS], HWC⟩
        · have c1' : ((tot : Int) == 0) = false := by rw [beq_eq_false_iff_ne]; omega
          have HS := hide (show saidAll tot stop = decide ((tot : Int) < stop) from by unfold saidAll; simp [c1])
          go_wp2_with fail
          go_meet
          case rel => exact ⟨by rw [unhide HS], HWC⟩
      case rest =>
      as_aux_lemma =>
      obtain ⟨rfl, HWC⟩ := hcut
      obtain ⟨hd, hhd⟩ : ∃ hd, hd = handed tot stop := ⟨_, rfl⟩
      obtain ⟨sd, hsd⟩ : ∃ sd, sd = saidAll tot stop := ⟨_, rfl⟩
      rw [← hhd, ← hsd]
      have hdt : hd ≤ tot := by rw [hhd]; exact handed_le tot stop
      have FWC : Fr (fun _ => False) W7 wc := by obtain ⟨m, hm⟩ := unhide HWC; rw [hm]; exact (Fr.refl _ W7).drewN m
      have HY2 := hide (⟨(unhide HY).2.2.2.1.fr ((unhide HFR7).trans FWC (fun _ _ e => e)) (fun _ _ e => e), (unhide HY).2.2.2.2.1.fr ((unhide HFR7).trans FWC (fun _ _ e => e)) (fun e => e), (unhide HY).2.2.2.2.2.1, (unhide HF47).trans FWC (fun _ _ e => e)⟩ : Ok (rdf W4) (· ∈ es1) W5.heap.size wc eb2 T2 ∧ RsAt wc rb2 eb2 tl2 op ∧ (op = true → tl2 = ⟨ta, tn, tc⟩) ∧ Fr (fun _ => False) W4 wc)
      have HE2 := hide (zzEach_any (rdf W4) (· ∈ es1) W5.heap.size eb2 T2 wc rb2 tl2 op stop (unhide HY2).1 (((unhide HST).kok W5 (unhide HY).2.2.2.2.2.2.2.1).fr (((unhide HY).2.2.2.2.2.2.2.2.trans (unhide HFR7) (fun _ _ e => e)).trans FWC (fun _ _ e => e)) (fun _ _ e => e)) (by rw [unhide HT2]; omega) (rdf_nil W4) (unhide HY2).2.1)
      have HHD := hide hhd; have HSD := hide hsd
      have HFSc := hide ((unhide HFS).frame FWC); have HFEc := hide ((unhide HFE).frame FWC)
      clear hhd hsd FWC
      go_wp2_with fail
      refine (unhide HE2).mono ?_
      intro r W8 hz
      obtain ⟨ga, gb, gc, gd, rfl, y1, y2, y3⟩ := zeach_some hz tot hd (unhide HR2) (unhide HHD).symm
      rw [← unhide HSD]
      have F48 : Fr (fun _ => False) W4 W8 := (unhide HY2).2.2.2.trans y3 (fun _ _ e => e)
      have HF48 := hide F48
      have HGS := hide y1; have HGE := hide y2
      have HFS8 := hide ((unhide HFSc).frame y3); have HFE8 := hide ((unhide HFEc).frame y3)
      clear hz y1 y2 y3 F48 HE2
      have hsd2 : (sd != sd) = false := by simp
      have HG2 := hide ((unhide HST).goodR (unhide HH2) ((unhide HY).2.2.2.1.keys) (unhide HY).2.2.2.2.2.1)
      have HSM := hide (rb_same ((unhide HH2).same (unhide HH1)) tl2 tl1 op (fun h => by rw [(unhide HY).2.2.2.2.2.1 h, (unhide HY).2.2.1 h]))
      go_wp2_with fail
      go_loopw [26] (fun v26 wr => ∃ k m : Nat, k ≤ hd ∧ v26 = .int .i64 k ∧ Hid (wr = W8.drewN m)) (fun v _ => hd - (intOf v).toNat)
      case atStart => exact ⟨0, 0, Nat.zero_le _, rfl, hide rfl⟩
      case round =>
        obtain ⟨i, m, hi, rfl, HW⟩ := hrel
        by_cases hil : i < hd
        · as_aux_lemma =>
          obtain ⟨b1, o1, x2, rfl, hc1, g1⟩ := (unhide HGS).at hil
          obtain ⟨b2, o2, z2, rfl, hc2, g2⟩ := (unhide HGE).at hil
          obtain ⟨b3, o3, x1, rfl, hc3, g3⟩ := (unhide HFS8).at (show i < tot by omega)
          obtain ⟨b4, o4, z1, rfl, hc4, g4⟩ := (unhide HFE8).at (show i < tot by omega)
          rw [List.getElem?_map, List.getElem?_take_of_lt hil] at g1 g2
          rw [List.getElem?_map] at g3 g4
          obtain ⟨r2, hr2, e1⟩ := Option.map_eq_some_iff.1 g1
          obtain ⟨r2', hr2', e2⟩ := Option.map_eq_some_iff.1 g2
          obtain ⟨r1, hr1, e3⟩ := Option.map_eq_some_iff.1 g3
          obtain ⟨r1', hr1', e4⟩ := Option.map_eq_some_iff.1 g4
          rw [hr2] at hr2'; rw [hr1] at hr1'
          cases hr2'; cases hr1'
          have hb : (rb (rdf W4) (ranges T2 tl2 op))[i]? = (rb (rdf W4) (ranges T1 tl1 op))[i]? := by rw [unhide HSM]
          unfold rb at hb
          rw [List.getElem?_map, List.getElem?_map, hr2, hr1] at hb
          simp only [Option.map_some, Option.some.injEq, Prod.mk.injEq] at hb
          rw [e1, e2, e3, e4] at hb
          have FW : Fr (fun _ => False) W4 wr := by rw [unhide HW]; exact (unhide HF48).drewN _
          have G2 := (unhide HG2) r2 (List.mem_of_getElem? hr2)
          have G1 := (unhide HGR) r1 (List.mem_of_getElem? hr1)
          rw [e1, e2] at G2
          rw [e3, e4] at G1
          have HA := hide ((G2.1.frame FW).cmp (G1.1.frame FW)).drew
          have HB := hide ((G2.2.frame FW).cmp (G1.2.frame FW)).drew
          rw [hb.1, Pl.cmp_self] at HA
          rw [hb.2, Pl.cmp_self] at HB
          have p1 : wr.cell? ⟨b1, o1 + i, none⟩ = some (.slice x2.a x2.n x2.c) := by rw [unhide HW]; exact hc1
          have p2 : wr.cell? ⟨b2, o2 + i, none⟩ = some (.slice z2.a z2.n z2.c) := by rw [unhide HW]; exact hc2
          have p3 : wr.cell? ⟨b3, o3 + i, none⟩ = some (.slice x1.a x1.n x1.c) := by rw [unhide HW]; exact hc3
          have p4 : wr.cell? ⟨b4, o4 + i, none⟩ = some (.slice z1.a z1.n z1.c) := by rw [unhide HW]; exact hc4
          have hit : i < tot := by omega
          clear hb G1 G2 FW e1 e2 e3 e4 hr1 hr2 g1 g2 g3 g4 hc1 hc2 hc3 hc4
          go_wp2_with fail
          go_quiet (first | (go_at_call 16; with_reducible exact Calls.quiet_of (unhide HA _)) | (go_at_call 16; with_reducible exact Calls.quiet_of (unhide HB _)))
          go_wp2_with fail
          go_roundw
          case rel => exact ⟨i + 1, _, by omega, by go_num, hide (by rw [unhide HW, World.drewN_drewN])⟩
          case measure => simp [intOf]; omega
        · as_aux_lemma =>
          go_wp2_with fail
          go_ret
          exact ⟨rfl, (unhide HST).fr.trans (show Fr (fun _ => False) W4 wr from by rw [unhide HW]; exact (unhide HF48).drewN _) (fun _ _ e => e)⟩
end Go.Proofs.Qxb6615626a.BA
