/-
  FnWritesMakeOnMergesWritesIntoState: the walk.
-/
import Derived.Test.Qxb6615626aMgw
import Derived.Test.Qxb6615626aHold
import Derived.Test.Qxb6615626aByb
import Derived.Test.Qxb6615626aLst2
import Derived.Deep.DeepCutAuto
namespace Go.Proofs.Qxb6615626a.BV
open Go.RowKit
set_option linter.unusedVariables false

set_option maxRecDepth 20000 in
set_option maxHeartbeats 8000000 in
theorem law7_any (bk bv k v d : Sl) (bks bvs ks vs : List Sl) (lbk lbv lk lv : List (List UInt8)) (bs : List Bool) (w : World) (g1 : LstW w bk bks lbk) (g2 : LstW w bv bvs lbv) (h1 : LstW w k ks lk) (h2 : LstW w v vs lv) (h3 : VL w d (bs.map Value.bool))
    (gn1 : bk.n ≤ maxLen) (gn2 : bv.n ≤ maxLen) (hn1 : k.n ≤ maxLen) (hn2 : v.n ≤ maxLen) (hn3 : d.n ≤ maxLen) :
    Calls Try.prog 7 #[bk.v, bv.v, k.v, v.v, d.v] w (YesPost w) := by
  have HZ := hide (zzBytes29 bk bks bv bvs k ks v vs d w g1.lst g1.small gn1 g2.lst g2.small gn2 h1.lst h1.small hn1 h2.lst h2.small hn2 hn3)
  have HFT := hide (zzMakeOnFit_any bk bv k v d bks bvs ks vs w g1.lst g2.lst h1.lst h2.lst g1.small g2.small h1.small h2.small gn1 gn2 hn1 hn2 hn3)
  have G1 := hide g1; have G2 := hide g2; have H1 := hide h1; have H2 := hide h2; have H3 := hide h3; have HN3 := hide hn3
  clear g1 g2 h1 h2 h3 hn1 hn2 hn3 gn1 gn2
  simp only [Sl.v]
  go_enter Try.func7, Try.ntmps7
  go_wp2_with fail
  refine (unhide HZ).mono ?_
  rintro r W ⟨hW, b, rfl⟩
  rw [hW]; clear hW W HZ
  cases b with
  | false =>
    go_wp2_with fail
    go_ret
    exact ⟨rfl, Fr.refl _ w⟩
  | true =>
  go_wp2_with fail
  refine (unhide HFT).mono ?_
  rintro r W ⟨hW, b, rfl, hb⟩
  rw [hW]; clear hW W HFT
  cases b with
  | false =>
    go_wp2_with fail
    go_ret
    exact ⟨rfl, Fr.refl _ w⟩
  | true =>
  have HF := hide (hb rfl)
  clear hb
  have HC1 := hide (zzCloneAll_any bk bks lbk w (unhide G1) (by have := (unhide HF).1; omega) (unhide HF).2.2.2.2.2.1)
  go_wp2_with fail
  refine (unhide HC1).mono ?_
  rintro r W1 ⟨bk1, bks1, rfl, c1, c2, c3, c4, c5⟩
  have HS1 := hide (⟨c1, c2, c3, c4⟩ : bk1.n = bk.n ∧ LstB W1 bk1 bks1 lbk ∧ (∀ t ∈ bks1, t.made w.heap.size W1.heap.size) ∧ Fr (fun _ => False) w W1)
  have HC2 := hide (zzCloneAll_any bv bvs lbv W1 ((unhide G2).frame c4) (by have := (unhide HF).1; have := (unhide HF).2.1; omega) (unhide HF).2.2.2.2.2.2.1)
  clear c1 c2 c3 c4 c5 HC1
  go_wp2_with fail
  refine (unhide HC2).mono ?_
  rintro r W2 ⟨bv1, bvs1, rfl, c1, c2, c3, c4, c5⟩
  have HS2 := hide (⟨c1, c2.lst, (unhide HS1).2.2.2.trans c4 (fun _ _ e => e), c4⟩ : bv1.n = bv.n ∧ Lst W2 bv1 bvs1 ∧ Fr (fun _ => False) w W2 ∧ Fr (fun _ => False) W1 W2)
  have HC3 := hide (zzCloneAll_any k ks lk W2 ((unhide H1).frame (unhide HS2).2.2.1) (by have := (unhide HF).2.2.1; omega) (unhide HF).2.2.2.2.2.2.2.1)
  clear c1 c2 c3 c4 c5 HC2
  go_wp2_with fail
  refine (unhide HC3).mono ?_
  rintro r W3 ⟨k1, ks1, rfl, c1, c2, c3, c4, c5⟩
  have HS3 := hide (⟨c1, c2, c3, (unhide HS2).2.2.1.trans c4 (fun _ _ e => e), c4⟩ : k1.n = k.n ∧ LstB W3 k1 ks1 lk ∧ (∀ t ∈ ks1, t.made W2.heap.size W3.heap.size) ∧ Fr (fun _ => False) w W3 ∧ Fr (fun _ => False) W2 W3)
  have HC4 := hide (zzCloneAll_any v vs lv W3 ((unhide H2).frame (unhide HS3).2.2.2.1) (by have := (unhide HF).2.2.1; have := (unhide HF).2.2.2.1; omega) (unhide HF).2.2.2.2.2.2.2.2)
  clear c1 c2 c3 c4 c5 HC3
  go_wp2_with fail
  refine (unhide HC4).mono ?_
  rintro r W4 ⟨v1, vs1, rfl, c1, c2, c3, c4, c5⟩
  have F14 : Fr (fun _ => False) W1 W4 := ((unhide HS2).2.2.2.trans (unhide HS3).2.2.2.2 (fun _ _ e => e)).trans c4 (fun _ _ e => e)
  have F04 : Fr (fun _ => False) w W4 := (unhide HS3).2.2.2.1.trans c4 (fun _ _ e => e)
  have HST : Hid (MStart w W4 bk1 k1 bks1 ks1 lbk lk) := hide (by
    obtain ⟨a1, a2, a3, a4⟩ := unhide HS1
    obtain ⟨b1, b2, b3, b4, b5⟩ := unhide HS3
    have s2 := (unhide HS2).2.2.1.size
    have s14 := F14.size
    have s34 := c4.size
    have n1 := (unhide HF).1; have n2 := (unhide HF).2.2.1
    exact ⟨F04, a2.frame F14, b2.frame c4, by omega, by omega, fun t ht => (a3 t ht).imp id (fun h => ⟨h.1, by omega⟩), fun t ht => (b3 t ht).imp id (fun h => ⟨by omega, by omega⟩)⟩)
  have HBV := hide (show Lst W4 bv1 bvs1 from (unhide HS2).2.1.frame ((unhide HS3).2.2.2.2.trans c4 (fun _ _ e => e)))
  have HVV := hide (show Lst W4 v1 vs1 from c2.lst)
  have HNN := hide (show bk1.n = bk.n ∧ bv1.n = bk.n ∧ k1.n = k.n ∧ v1.n = k.n from ⟨(unhide HS1).1, by have := (unhide HS2).1; have := (unhide HF).2.1; omega, (unhide HS3).1, by have := (unhide HF).2.2.2.1; omega⟩)
  have hb1 : bk.n ≤ 1024 := (unhide HF).1
  have hk1 : k.n ≤ 1024 := (unhide HF).2.2.1
  clear c1 c2 c3 c4 c5 HC4 HS1 HS2 HS3 F14
  obtain ⟨bka, bkn, bkc⟩ := bk1
  obtain ⟨bva, bvn, bvc⟩ := bv1
  obtain ⟨ka, kn, kc⟩ := k1
  obtain ⟨va, vn, vc⟩ := v1
  obtain ⟨e1, e2, e3, e4⟩ : bkn = bk.n ∧ bvn = bk.n ∧ kn = k.n ∧ vn = k.n := unhide HNN
  have e5 : bvn = bkn := by omega
  have e6 : vn = kn := by omega
  have hbn : bkn ≤ 1024 := by omega
  have hkn : kn ≤ 1024 := by omega
  subst e5 e6
  clear e1 e2 e3 e4 HNN hb1 hk1
  simp only [Sl.v]
  -- the Versions
  have HV := hide (zzVersions2_any ⟨bva, bvn, bvc⟩ Sl.nil bvs1 [] W4 (unhide HBV) (nilVL W4) (by show bvn ≤ _; omega) (Nat.zero_le _))
  go_wp2_with fail
  refine (unhide HV).mono ?_
  rintro r W5 ⟨pba, pb, rfl, q1, q2, q3, q4⟩
  have HPB := hide (⟨q1, q2, q3⟩ : pb.length = bvn ∧ VL W5 ⟨some pba, bvn, bvn⟩ (pb.map Value.pointer) ∧ Fr (fun _ => False) W4 W5)
  have HV2 := hide (zzVersions2_any ⟨va, vn, vc⟩ d vs1 bs W5 ((unhide HVV).frame q3) ((unhide H3).frame ((unhide HST).fr.trans q3 (fun _ _ e => e))) (by show vn ≤ _; omega) (unhide HN3))
  clear q1 q2 q3 q4 HV
  go_wp2_with fail
  refine (unhide HV2).mono ?_
  rintro r W6 ⟨pa, pv, rfl, q1, q2, q3, q4⟩
  have F46 : Fr (fun _ => False) W4 W6 := (unhide HPB).2.2.trans q3 (fun _ _ e => e)
  have HPV := hide (⟨q1, q2, F46, q4, (unhide HPB).2.1.frame q3⟩ : pv.length = vn ∧ VL W6 ⟨some pa, vn, vn⟩ (pv.map Value.pointer) ∧ Fr (fun _ => False) W4 W6 ∧ (∀ x ∈ pv, PW W6 x) ∧ VL W6 ⟨some pba, bvn, bvn⟩ (pb.map Value.pointer))
  have HKOK := hide (((unhide HST).kok.fr F46 (fun _ _ e => e)).more F46.size)
  clear q1 q2 q3 q4 HV2 F46
  -- the tree
  have HT1 := hide (zzTree_any (rdf W4) (fun s => s ∈ bks1 ∨ s ∈ ks1) ⟨bka, bvn, bkc⟩ ⟨some pba, bvn, bvn⟩ bks1 pb false W6 ((unhide HST).hb.lst.frame (unhide HPV).2.2.1) (unhide HPV).2.2.2.2 rfl (by show bvn ≤ _; omega) (unhide HKOK) (unhide HST).small (fun t ht => .inl ht))
  go_wp2_with fail
  refine (unhide HT1).mono ?_
  rintro r W7 ⟨eb1, T1, rfl, x1, x2, x3⟩
  have F47 : Fr (fun _ => False) W4 W7 := (unhide HPV).2.2.1.trans x3 (fun _ _ e => e)
  have HX1 := hide (⟨x1, x2, x3, x1.own_lt, F47⟩ : Ok (rdf W4) (fun s => s ∈ bks1 ∨ s ∈ ks1) W6.heap.size W7 eb1 T1 ∧ T1.es = insAll (rdf W4) [] (ordOf bks1 pb false) ∧ Fr (fun _ => False) W6 W7 ∧ (∀ j, T1.own eb1 j → j < W7.heap.size) ∧ Fr (fun _ => False) W4 W7)
  have HWR := hide (zzWrites_any (rdf W4) (fun s => s ∈ bks1 ∨ s ∈ ks1) ⟨ka, vn, kc⟩ ⟨some pa, vn, vn⟩ ks1 pv lk W7 ((unhide HST).hk.frame F47) ((unhide HPV).2.1.frame x3) rfl (by show vn ≤ _; omega) (fun x hx => ((unhide HPV).2.2.2.1 x hx).frame x3) (((unhide HKOK).fr x3 (fun _ _ e => e)).more x3.size) (unhide HST).small (fun t ht => .inr ht))
  clear x1 x2 x3 HT1 F47
  go_wp2_with fail
  refine (unhide HWR).mono ?_
  rintro r W8 ⟨wb, Tw, rfl, x1, x2, x3⟩
  have F68 : Fr (fun _ => False) W6 W8 := (unhide HX1).2.2.1.trans x3 (fun _ _ e => e)
  have HX2 := hide (⟨x1, x2, x3, F68⟩ : WOK (rdf W4) (fun s => s ∈ bks1 ∨ s ∈ ks1) W7.heap.size W8.heap.size W8 wb Tw ∧ Tw.es = insAll (rdf W4) [] (ks1.zip pv) ∧ Fr (fun _ => False) W7 W8 ∧ Fr (fun _ => False) W6 W8)
  clear x1 x2 x3 HWR F68
  have HHB : Hid (HeldL (rdf W4) lbk pb T1) := hide (heldL_of (unhide HX1).2.1 (lstB_map (unhide HST).hb))
  have HHL : Hid (HeldL (rdf W4) lk pv Tw) := hide (heldL_of (unhide HX2).2.1 (lstB_map (unhide HST).hk))
  have HLN : Hid (T1.es.length ≤ bvn ∧ Tw.es.length ≤ vn ∧ bks1.length = bvn ∧ ks1.length = vn ∧ pb.length = bvn ∧ pv.length = vn) := hide (by
    have h5 := (unhide HPB).1; have h6 := (unhide HPV).1
    have l1 : bks1.length = bvn := (unhide HST).hb.lst.1
    have l2 : ks1.length = vn := (unhide HST).hk.lst.1
    refine ⟨?_, ?_, l1, l2, h5, h6⟩
    · rw [(unhide HX1).2.1]
      have := length_insAll (f := rdf W4) (ordOf bks1 pb false) []
      rw [length_ordOf] at this
      simp only [List.length_nil] at this; omega
    · rw [(unhide HX2).2.1]
      have := length_insAll (f := rdf W4) (ks1.zip pv) []
      simp only [List.length_nil, List.length_zip] at this; omega)
  have HMO := hide (makeOn_any (rdf W4) (fun s => s ∈ bks1 ∨ s ∈ ks1) W6.heap.size eb1 wb W7.heap.size W8.heap.size T1 Tw W8 (unhide HX2).1 ((unhide HX1).1.fr (unhide HX2).2.2.1 (fun _ _ e => e)) ((unhide HKOK).fr (unhide HX2).2.2.2 (fun _ _ e => e)) (unhide HX1).2.2.1.size (unhide HST).small (rdf_nil W4) (fun j hj => .inl ((unhide HX1).2.2.2.1 j hj)) (by have := unhide HLN; omega))
  go_wp2_with fail
  refine (unhide HMO).mono ?_
  intro e W9 hmk
  obtain ⟨rfl, T2, z1, z2, z3, z4⟩ := unhide_mk hmk
  have F69 : Fr (fun _ => False) W6 W9 := (unhide HX2).2.2.2.trans z3 (fun j hj h1 => by have := (unhide HX1).1.core.low j h1; omega)
  have F49 : Fr (fun _ => False) W4 W9 := (unhide HPV).2.2.1.trans F69 (fun _ _ e => e)
  have HZ := hide (⟨z1, z2, F69, F49⟩ : Ok (rdf W4) (fun s => s ∈ bks1 ∨ s ∈ ks1) W6.heap.size W9 eb1 T2 ∧ T2.es = mkAll (rdf W4) T1.es Tw.es ∧ Fr (fun _ => False) W6 W9 ∧ Fr (fun _ => False) W4 W9)
  have HMI := hide (show MIn W4 W9 ⟨bka, bvn, bkc⟩ ⟨some pba, bvn, bvn⟩ ⟨ka, vn, kc⟩ ⟨some pa, vn, vn⟩ bks1 ks1 pb pv lbk lk from
    ⟨(unhide HST).hb.frame F49, (unhide HST).hk.frame F49, (unhide HPV).2.2.2.2.frame F69, (unhide HPV).2.1.frame F69, fun x hx => ((unhide HST).good x hx).frame F49⟩)
  clear z1 z2 z3 z4 hmk F69 F49 HMO
  obtain ⟨E, hE⟩ : ∃ E, E = gk (rdf W4) (mkAll (rdf W4) T1.es Tw.es) := ⟨_, rfl⟩
  have HMG := hide (zzMerged_any W4 W9 ⟨bka, bvn, bkc⟩ ⟨some pba, bvn, bvn⟩ ⟨ka, vn, kc⟩ ⟨some pa, vn, vn⟩ bks1 ks1 pb pv lbk lk E (unhide HMI) (by show bvn ≤ _; omega) (by show vn ≤ _; omega) rfl rfl
    (by rw [hE]; exact (AscE.mkAll Tw.es (unhide HHB).asc).gk)
    (by rw [hE]; have := unhide HLN; exact merged_perm (lstB_map (unhide HST).hb) (lstB_map (unhide HST).hk) (by omega) (by omega) (unhide HHB) (unhide HHL) vn bvn (by omega) (by omega)))
  have HE := hide hE
  clear hE
  go_wp2_with fail
  refine (unhide HMG).mono ?_
  rintro e W10 ⟨g1, g2, oks, ovs, rfl, m1, m2, m3, m4⟩
  obtain ⟨n, hn⟩ : ∃ n, E.length = n := ⟨_, rfl⟩
  rw [hn] at m1 m2 ⊢
  have hnn : T2.es.length = n := by rw [← hn, unhide HE, length_gk, (unhide HZ).2.1]
  have hn7 : n ≤ 7000 := by
    have := length_mkAll (f := rdf W4) Tw.es T1.es
    rw [← (unhide HZ).2.1, hnn] at this
    have := unhide HLN
    omega
  have HHO := hide (zzHolds_any W4 (fun s => s ∈ bks1 ∨ s ∈ ks1) W6.heap.size eb1 n T2 ⟨some ⟨g1, 0, none⟩, n, n⟩ ⟨some ⟨g2, 0, none⟩, n, n⟩ oks ovs W10 ((unhide HZ).1.fr m4 (fun _ _ e => e)) ((unhide HKOK).fr ((unhide HZ).2.2.1.trans m4 (fun _ _ e => e)) (fun _ _ e => e)) (unhide HST).small hnn hn7 rfl rfl m1 m2
    (fun i s x hi => by
      obtain ⟨o, a1, a2, a3, a4⟩ := m3 i (rdf W4 s) x (by
        rw [unhide HE, ← (unhide HZ).2.1]
        unfold gk
        rw [List.getElem?_map, hi]; rfl)
      exact ⟨o, a1, a2, a3, a4⟩))
  have HFF := hide (show Fr (fun _ => False) w W10 from ((unhide HST).fr.trans (unhide HZ).2.2.2 (fun _ _ e => e)).trans m4 (fun _ _ e => e))
  clear m1 m2 m3 m4 hn hnn hn7 HMG
  go_wp2_with fail
  refine (unhide HHO).mono ?_
  rintro e W11 ⟨rfl, hf⟩
  go_wp2_with fail
  go_ret
  exact ⟨rfl, (unhide HFF).trans hf (fun _ _ e => e)⟩
end Go.Proofs.Qxb6615626a.BV
