/-
  FnWritesMakeOnTwiceIsOnceAndStepsOncePerWrite: the walk.
-/
import Derived.Test.Qxb6615626aPl8
import Derived.Test.Qxb6615626aByb
import Derived.Test.Qxb6615626aLst2
import Derived.Deep.DeepCutAuto
namespace Go.Proofs.Qxb6615626a.BV
open Go.RowKit
set_option linter.unusedVariables false

/-- what the counting loop starts from -/
structure G8 (f : Sl → List UInt8) (K : Sl → Prop) (w w4 w6 w7 w8 w9 w10 : World) (eb1 eb2 wb : Nat) (T1 T2 Tw : Tr) (k : Sl) (ks : List Sl) (p : Sl) (pv : List (Option Addr)) (lab n : Nat) (lbs : List Bool) : Prop where
  ok1 : Ok f K w6.heap.size w10 eb1 T1
  own1 : ∀ j, T1.own eb1 j → j < w7.heap.size
  ok2 : Ok f K w7.heap.size w10 eb2 T2
  own2 : ∀ j, T2.own eb2 j → j < w8.heap.size
  wok : WOK f K w8.heap.size w9.heap.size w10 wb Tw
  kok : KOK f K w6.heap.size w10
  kl : Lst w6 k ks
  vl : VL w6 p (pv.map Value.pointer)
  ll : VL w10 ⟨some ⟨lab, 0, none⟩, n, n⟩ (lbs.map Value.bool)
  lb : w9.heap.size = lab ∧ lab < w10.heap.size
  f6 : Fr (fun _ => False) w w6
  f67 : Fr (fun _ => False) w6 w7
  f78 : Fr (fun _ => False) w7 w8
  f89 : Fr (fun _ => False) w8 w9
  f90 : Fr (fun _ => False) w9 w10

set_option maxRecDepth 20000 in
set_option maxHeartbeats 8000000 in
theorem law8_any (bk bv k v d : Sl) (bks bvs ks vs : List Sl) (lbk lbv lk lv : List (List UInt8)) (bs : List Bool) (w : World) (g1 : LstW w bk bks lbk) (g2 : LstW w bv bvs lbv) (h1 : LstW w k ks lk) (h2 : LstW w v vs lv) (h3 : VL w d (bs.map Value.bool))
    (gn1 : bk.n ≤ maxLen) (gn2 : bv.n ≤ maxLen) (hn1 : k.n ≤ maxLen) (hn2 : v.n ≤ maxLen) (hn3 : d.n ≤ maxLen) :
    Calls Try.prog 8 #[bk.v, bv.v, k.v, v.v, d.v] w (YesPost w) := by
  have HZ := hide (zzBytes35 bk bks bv bvs k ks v vs d w g1.lst g1.small gn1 g2.lst g2.small gn2 h1.lst h1.small hn1 h2.lst h2.small hn2 hn3)
  have HFT := hide (zzMakeOnFit_any bk bv k v d bks bvs ks vs w g1.lst g2.lst h1.lst h2.lst g1.small g2.small h1.small h2.small gn1 gn2 hn1 hn2 hn3)
  have G1 := hide g1; have G2 := hide g2; have H1 := hide h1; have H2 := hide h2; have H3 := hide h3; have HN3 := hide hn3
  clear g1 g2 h1 h2 h3 hn1 hn2 hn3 gn1 gn2
  simp only [Sl.v]
  go_enter Try.func8, Try.ntmps8
  go_wp2_with fail
  refine (unhide HZ).mono ?_
  rintro r W ⟨hW, b, rfl⟩
  rw [hW]; clear hW W HZ
  cases b with
  | false =>
    go_wp2_with fail
    go_ret
    exact ⟨rfl, Fr.refl _ w⟩
  | true =>
  go_wp2_with fail
  refine (unhide HFT).mono ?_
  rintro r W ⟨hW, b, rfl, hb⟩
  rw [hW]; clear hW W HFT
  cases b with
  | false =>
    go_wp2_with fail
    go_ret
    exact ⟨rfl, Fr.refl _ w⟩
  | true =>
  have HF := hide (hb rfl)
  clear hb
  have HC1 := hide (zzCloneAll_any bk bks lbk w (unhide G1) (by have := (unhide HF).1; omega) (unhide HF).2.2.2.2.2.1)
  go_wp2_with fail
  refine (unhide HC1).mono ?_
  rintro r W1 ⟨bk1, bks1, rfl, c1, c2, c3, c4, c5⟩
  have HS1 := hide (⟨c1, c2, c3, c4⟩ : bk1.n = bk.n ∧ LstB W1 bk1 bks1 lbk ∧ (∀ t ∈ bks1, t.made w.heap.size W1.heap.size) ∧ Fr (fun _ => False) w W1)
  have HC2 := hide (zzCloneAll_any bv bvs lbv W1 ((unhide G2).frame c4) (by have := (unhide HF).1; have := (unhide HF).2.1; omega) (unhide HF).2.2.2.2.2.2.1)
  clear c1 c2 c3 c4 c5 HC1
  go_wp2_with fail
  refine (unhide HC2).mono ?_
  rintro r W2 ⟨bv1, bvs1, rfl, c1, c2, c3, c4, c5⟩
  have HS2 := hide (⟨c1, c2.lst, (unhide HS1).2.2.2.trans c4 (fun _ _ e => e), c4⟩ : bv1.n = bv.n ∧ Lst W2 bv1 bvs1 ∧ Fr (fun _ => False) w W2 ∧ Fr (fun _ => False) W1 W2)
  have HC3 := hide (zzCloneAll_any k ks lk W2 ((unhide H1).frame (unhide HS2).2.2.1) (by have := (unhide HF).2.2.1; omega) (unhide HF).2.2.2.2.2.2.2.1)
  clear c1 c2 c3 c4 c5 HC2
  go_wp2_with fail
  refine (unhide HC3).mono ?_
  rintro r W3 ⟨k1, ks1, rfl, c1, c2, c3, c4, c5⟩
  have HS3 := hide (⟨c1, c2, c3, (unhide HS2).2.2.1.trans c4 (fun _ _ e => e), c4⟩ : k1.n = k.n ∧ LstB W3 k1 ks1 lk ∧ (∀ t ∈ ks1, t.made W2.heap.size W3.heap.size) ∧ Fr (fun _ => False) w W3 ∧ Fr (fun _ => False) W2 W3)
  have HC4 := hide (zzCloneAll_any v vs lv W3 ((unhide H2).frame (unhide HS3).2.2.2.1) (by have := (unhide HF).2.2.1; have := (unhide HF).2.2.2.1; omega) (unhide HF).2.2.2.2.2.2.2.2)
  clear c1 c2 c3 c4 c5 HC3
  go_wp2_with fail
  refine (unhide HC4).mono ?_
  rintro r W4 ⟨v1, vs1, rfl, c1, c2, c3, c4, c5⟩
  have F14 : Fr (fun _ => False) W1 W4 := ((unhide HS2).2.2.2.trans (unhide HS3).2.2.2.2 (fun _ _ e => e)).trans c4 (fun _ _ e => e)
  have F04 : Fr (fun _ => False) w W4 := (unhide HS3).2.2.2.1.trans c4 (fun _ _ e => e)
  have HST : Hid (MStart w W4 bk1 k1 bks1 ks1 lbk lk) := hide (by
    obtain ⟨a1, a2, a3, a4⟩ := unhide HS1
    obtain ⟨b1, b2, b3, b4, b5⟩ := unhide HS3
    have s2 := (unhide HS2).2.2.1.size
    have s14 := F14.size
    have s34 := c4.size
    have n1 := (unhide HF).1; have n2 := (unhide HF).2.2.1
    exact ⟨F04, a2.frame F14, b2.frame c4, by omega, by omega, fun t ht => (a3 t ht).imp id (fun h => ⟨h.1, by omega⟩), fun t ht => (b3 t ht).imp id (fun h => ⟨by omega, by omega⟩)⟩)
  have HBV := hide (show Lst W4 bv1 bvs1 from (unhide HS2).2.1.frame ((unhide HS3).2.2.2.2.trans c4 (fun _ _ e => e)))
  have HVV := hide (show Lst W4 v1 vs1 from c2.lst)
  have HNN := hide (show bk1.n = bk.n ∧ bv1.n = bk.n ∧ k1.n = k.n ∧ v1.n = k.n from ⟨(unhide HS1).1, by have := (unhide HS2).1; have := (unhide HF).2.1; omega, (unhide HS3).1, by have := (unhide HF).2.2.2.1; omega⟩)
  have hb1 : bk.n ≤ 1024 := (unhide HF).1
  have hk1 : k.n ≤ 1024 := (unhide HF).2.2.1
  clear c1 c2 c3 c4 c5 HC4 HS1 HS2 HS3 F14
  obtain ⟨bka, bkn, bkc⟩ := bk1
  obtain ⟨bva, bvn, bvc⟩ := bv1
  obtain ⟨ka, kn, kc⟩ := k1
  obtain ⟨va, vn, vc⟩ := v1
  obtain ⟨e1, e2, e3, e4⟩ : bkn = bk.n ∧ bvn = bk.n ∧ kn = k.n ∧ vn = k.n := unhide HNN
  have e5 : bvn = bkn := by omega
  have e6 : vn = kn := by omega
  have hbn : bkn ≤ 1024 := by omega
  have hkn : kn ≤ 1024 := by omega
  subst e5 e6
  clear e1 e2 e3 e4 HNN hb1 hk1
  simp only [Sl.v]
  -- the Versions
  have HV := hide (zzVersions2_any ⟨bva, bvn, bvc⟩ Sl.nil bvs1 [] W4 (unhide HBV) (nilVL W4) (by show bvn ≤ _; omega) (Nat.zero_le _))
  go_wp2_with fail
  refine (unhide HV).mono ?_
  rintro r W5 ⟨pba, pb, rfl, q1, q2, q3, q4⟩
  have HPB := hide (⟨q1, q2, q3⟩ : pb.length = bvn ∧ VL W5 ⟨some pba, bvn, bvn⟩ (pb.map Value.pointer) ∧ Fr (fun _ => False) W4 W5)
  have HV2 := hide (zzVersions2_any ⟨va, vn, vc⟩ d vs1 bs W5 ((unhide HVV).frame q3) ((unhide H3).frame ((unhide HST).fr.trans q3 (fun _ _ e => e))) (by show vn ≤ _; omega) (unhide HN3))
  clear q1 q2 q3 q4 HV
  go_wp2_with fail
  refine (unhide HV2).mono ?_
  rintro r W6 ⟨pa, pv, rfl, q1, q2, q3, q4⟩
  have F46 : Fr (fun _ => False) W4 W6 := (unhide HPB).2.2.trans q3 (fun _ _ e => e)
  have HPV := hide (⟨q1, q2, F46, q4, (unhide HPB).2.1.frame q3⟩ : pv.length = vn ∧ VL W6 ⟨some pa, vn, vn⟩ (pv.map Value.pointer) ∧ Fr (fun _ => False) W4 W6 ∧ (∀ x ∈ pv, PW W6 x) ∧ VL W6 ⟨some pba, bvn, bvn⟩ (pb.map Value.pointer))
  have HKOK := hide (((unhide HST).kok.fr F46 (fun _ _ e => e)).more F46.size)
  clear q1 q2 q3 q4 HV2 F46
  -- the two trees
  have HT1 := hide (zzTree_any (rdf W4) (fun s => s ∈ bks1 ∨ s ∈ ks1) ⟨bka, bvn, bkc⟩ ⟨some pba, bvn, bvn⟩ bks1 pb false W6 ((unhide HST).hb.lst.frame (unhide HPV).2.2.1) (unhide HPV).2.2.2.2 rfl (by show bvn ≤ _; omega) (unhide HKOK) (unhide HST).small (fun t ht => .inl ht))
  go_wp2_with fail
  refine (unhide HT1).mono ?_
  rintro r W7 ⟨eb1, T1, rfl, x1, x2, x3⟩
  have F47 : Fr (fun _ => False) W4 W7 := (unhide HPV).2.2.1.trans x3 (fun _ _ e => e)
  have HX1 := hide (⟨x1, x2, x3, x1.own_lt, F47⟩ : Ok (rdf W4) (fun s => s ∈ bks1 ∨ s ∈ ks1) W6.heap.size W7 eb1 T1 ∧ T1.es = insAll (rdf W4) [] (ordOf bks1 pb false) ∧ Fr (fun _ => False) W6 W7 ∧ (∀ j, T1.own eb1 j → j < W7.heap.size) ∧ Fr (fun _ => False) W4 W7)
  have HT2 := hide (zzTree_any (rdf W4) (fun s => s ∈ bks1 ∨ s ∈ ks1) ⟨bka, bvn, bkc⟩ ⟨some pba, bvn, bvn⟩ bks1 pb false W7 ((unhide HST).hb.lst.frame F47) ((unhide HPV).2.2.2.2.frame x3) rfl (by show bvn ≤ _; omega) (((unhide HKOK).fr x3 (fun _ _ e => e)).more x3.size) (unhide HST).small (fun t ht => .inl ht))
  clear x1 x2 x3 HT1 F47
  go_wp2_with fail
  refine (unhide HT2).mono ?_
  rintro r W8 ⟨eb2, T2, rfl, x1, x2, x3⟩
  have F48 : Fr (fun _ => False) W4 W8 := (unhide HX1).2.2.2.2.trans x3 (fun _ _ e => e)
  have F68 : Fr (fun _ => False) W6 W8 := (unhide HX1).2.2.1.trans x3 (fun _ _ e => e)
  have HX2 := hide (⟨x1, x2, x3, x1.own_lt, F48⟩ : Ok (rdf W4) (fun s => s ∈ bks1 ∨ s ∈ ks1) W7.heap.size W8 eb2 T2 ∧ T2.es = insAll (rdf W4) [] (ordOf bks1 pb false) ∧ Fr (fun _ => False) W7 W8 ∧ (∀ j, T2.own eb2 j → j < W8.heap.size) ∧ Fr (fun _ => False) W4 W8)
  have HWR := hide (zzWrites_any (rdf W4) (fun s => s ∈ bks1 ∨ s ∈ ks1) ⟨ka, vn, kc⟩ ⟨some pa, vn, vn⟩ ks1 pv lk W8 ((unhide HST).hk.frame F48) ((unhide HPV).2.1.frame F68) rfl (by show vn ≤ _; omega) (fun x hx => ((unhide HPV).2.2.2.1 x hx).frame F68) (((unhide HKOK).fr F68 (fun _ _ e => e)).more F68.size) (unhide HST).small (fun t ht => .inr ht))
  clear x1 x2 x3 HT2 F48 F68
  go_wp2_with fail
  refine (unhide HWR).mono ?_
  rintro r W9 ⟨wb, Tw, rfl, x1, x2, x3⟩
  have F49 : Fr (fun _ => False) W4 W9 := (unhide HX2).2.2.2.2.trans x3 (fun _ _ e => e)
  have HX3 := hide (⟨x1, x2, x3⟩ : WOK (rdf W4) (fun s => s ∈ bks1 ∨ s ∈ ks1) W8.heap.size W9.heap.size W9 wb Tw ∧ Tw.es = insAll (rdf W4) [] (ks1.zip pv) ∧ Fr (fun _ => False) W8 W9)
  have HLB := hide (zzLast2_any ⟨ka, vn, kc⟩ ks1 lk W9 ((unhide HST).hk.frame F49) (by show vn ≤ _; omega))
  clear x1 x2 x3 HWR F49
  go_wp2_with fail
  refine (unhide HLB).mono ?_
  rintro r W10 ⟨rfl, y1, y2, y3⟩
  obtain ⟨lab, hlab⟩ : ∃ n, W9.heap.size = n := ⟨_, rfl⟩
  rw [hlab] at y1 y3 ⊢
  have HHL : Hid (HeldL (rdf W4) lk pv Tw) := hide (heldL_of (unhide HX3).2.1 (lstB_map (unhide HST).hk))
  have HTE : Hid (T1.es = T2.es ∧ AscE (rdf W4) T1.es ∧ AscE (rdf W4) Tw.es ∧ T1.es.length ≤ bvn ∧ Tw.es.length ≤ vn) := hide (by
    have a1 := (unhide HX1).2.1; have a2 := (unhide HX2).2.1
    refine ⟨by rw [a1, a2], (unhide HX1).1.core.asc, (unhide HHL).asc, ?_, ?_⟩
    · rw [a1]
      have := length_insAll (f := rdf W4) (ordOf bks1 pb false) []
      rw [length_ordOf] at this
      have h5 := (unhide HPB).1
      simp only [List.length_nil] at this; omega
    · rw [(unhide HX3).2.1]
      have := length_insAll (f := rdf W4) (ks1.zip pv) []
      have h5 := (unhide HPV).1
      simp only [List.length_nil, List.length_zip] at this; omega)
  have HG : Hid (G8 (rdf W4) (fun s => s ∈ bks1 ∨ s ∈ ks1) w W4 W6 W7 W8 W9 W10 eb1 eb2 wb T1 T2 Tw ⟨ka, vn, kc⟩ ks1 ⟨some pa, vn, vn⟩ pv lab vn (lastB lk)) := hide (by
    have f67 := (unhide HX1).2.2.1; have f78 := (unhide HX2).2.2.1; have f89 := (unhide HX3).2.2
    have f80 : Fr (fun _ => False) W8 W10 := f89.trans y2 (fun _ _ e => e)
    have f70 : Fr (fun _ => False) W7 W10 := f78.trans f80 (fun _ _ e => e)
    exact ⟨(unhide HX1).1.fr f70 (fun _ _ e => e), (unhide HX1).2.2.2.1, (unhide HX2).1.fr f80 (fun _ _ e => e), (unhide HX2).2.2.2.1, (unhide HX3).1.fr y2 (fun _ _ _ e => e),
      (unhide HKOK).fr (f67.trans f70 (fun _ _ e => e)) (fun _ _ e => e), (unhide HST).hk.lst.frame (unhide HPV).2.2.1, (unhide HPV).2.1, y1, ⟨hlab, y3⟩, (unhide HST).fr.trans (unhide HPV).2.2.1 (fun _ _ e => e), f67, f78, f89, y2⟩)
  have HLL := hide (show lk.length = vn from (unhide HST).hk.n_eq)
  have HPL := hide (unhide HPV).1
  clear y1 y2 y3 hlab HX1 HX2 HX3 HLB HPB HPV HKOK HBV HVV
  -- counting the last writes
  go_wp2_with fail
  go_loopw [17, 18] (fun v17 v18 wr => ∃ j dd : Nat, j ≤ vn ∧ v18 = .int .i64 j ∧ v17 = .int .i64 dd ∧ dd ≤ j ∧ Hid (dd + cntL (fun _ => true) (lk.drop j) = cntL (fun _ => true) lk) ∧ W10 = wr) (fun _ v _ => vn - (intOf v).toNat)
  case atStart => exact ⟨0, 0, Nat.zero_le _, rfl, rfl, Nat.le_refl _, hide (by rw [List.drop_zero, Nat.zero_add]), rfl⟩
  case round =>
    obtain ⟨j, dd, hj, rfl, rfl, hdk, HD, hwr⟩ := hrel
    subst hwr
    by_cases hkl : j < vn
    · as_aux_lemma =>
      obtain ⟨b1, o1, u, q1, hc1, g1⟩ := (unhide HG).ll.at hkl
      cases q1
      rw [Nat.zero_add] at hc1
      rw [List.getElem?_map] at g1
      obtain ⟨bj, hbj, rfl⟩ := Option.map_eq_some_iff.1 g1
      have hst := cntL_step (fun _ => true) lk j (by rw [unhide HLL]; exact hkl) bj hbj
      have HSTP := hide hst
      clear g1 hbj hst
      cases bj with
      | true =>
        go_wp2_with fail
        go_roundw
        case rel => exact ⟨j + 1, dd + 1, by omega, by go_num, by go_num, by omega, hide (by have h1 := unhide HSTP; have h2 := unhide HD; simp at h1; omega), by first | rfl | trivial⟩
        case measure => simp [intOf]; omega
      | false =>
        go_wp2_with fail
        go_roundw
        case rel => exact ⟨j + 1, dd, by omega, by go_num, rfl, by omega, hide (by have h1 := unhide HSTP; have h2 := unhide HD; simp at h1; omega), by first | rfl | trivial⟩
        case measure => simp [intOf]; omega
    · as_aux_lemma =>
      have hdd : dd = Tw.es.length := by
        have h1 := unhide HD
        rw [List.drop_eq_nil_iff.2 (by rw [unhide HLL]; omega)] at h1
        rw [(unhide HHL).len (by rw [unhide HLL, unhide HPL])]
        simpa [cntL] using h1
      subst hdd
      clear HD
      have sz : Hid (W6.heap.size ≤ W7.heap.size ∧ W7.heap.size ≤ W8.heap.size ∧ W8.heap.size ≤ W9.heap.size ∧ W9.heap.size ≤ W10.heap.size ∧ w.heap.size ≤ W6.heap.size) := hide ⟨(unhide HG).f67.size, (unhide HG).f78.size, (unhide HG).f89.size, (unhide HG).f90.size, (unhide HG).f6.size⟩
      have hlen1 := (unhide HTE).2.2.2.1; have hlen2 := (unhide HTE).2.2.2.2
      have HCN := hide (count_any (rdf W4) (fun s => s ∈ bks1 ∨ s ∈ ks1) W6.heap.size eb1 wb W8.heap.size W9.heap.size T1 Tw W10 (unhide HG).wok (unhide HG).ok1 (unhide HG).kok (by have := unhide sz; omega) (unhide HST).small (rdf_nil W4) (fun j hj => .inl (by have := (unhide HG).own1 j hj; have := unhide sz; omega)) (by omega))
      go_wp2_with fail
      refine (unhide HCN).mono ?_
      rintro e W11 ⟨rfl, T1', a1, a2, a3, a4⟩
      have HA : Hid (Ok (rdf W4) (fun s => s ∈ bks1 ∨ s ∈ ks1) W6.heap.size W11 eb1 T1' ∧ T1'.es = mkAll (rdf W4) T1.es Tw.es ∧ (∀ j, T1'.own eb1 j → (j < W7.heap.size ∨ W10.heap.size ≤ j) ∧ j < W11.heap.size) ∧ Ok (rdf W4) (fun s => s ∈ bks1 ∨ s ∈ ks1) W7.heap.size W11 eb2 T2 ∧ WOK (rdf W4) (fun s => s ∈ bks1 ∨ s ∈ ks1) W8.heap.size W9.heap.size W11 wb Tw ∧ KOK (rdf W4) (fun s => s ∈ bks1 ∨ s ∈ ks1) W6.heap.size W11 ∧
          Fr (fun _ => False) W6 W11 ∧ VL W11 ⟨some ⟨lab, 0, none⟩, vn, vn⟩ ((lastB lk).map Value.bool) ∧ W10.heap.size ≤ W11.heap.size) := hide (by
        have z := unhide sz
        have G := unhide HG
        have o1 := G.own1
        have l1 := G.ok1.core.low
        have l2 := G.ok2.core.low
        refine ⟨a1, a2, fun j hj => ⟨(a4 j hj).imp (o1 j) id, a1.own_lt j hj⟩, G.ok2.fr a3 (fun j hj h1 => by have := l2 j hj; have := o1 j h1; omega), G.wok.fr a3 (fun j h1 h2 h3 => by have := o1 j h3; omega), G.kok.fr a3 (fun j h1 h2 => by have := l1 j h2; omega),
          ((G.f67.trans G.f78 (fun _ _ e => e)).trans (G.f89.trans G.f90 (fun _ _ e => e)) (fun _ _ e => e)).trans a3 (fun j hj h1 => by have := l1 j h1; omega), G.ll.one a3 (fun h => by have := o1 _ h; have := G.lb.1; omega), a3.size⟩)
      clear a1 a2 a3 a4 HCN
      have HCN := hide (count_any (rdf W4) (fun s => s ∈ bks1 ∨ s ∈ ks1) W7.heap.size eb2 wb W8.heap.size W9.heap.size T2 Tw W11 (unhide HA).2.2.2.2.1 (unhide HA).2.2.2.1 ((unhide HA).2.2.2.2.2.1.more (by have := unhide sz; omega)) (by have := unhide sz; omega) (unhide HST).small (rdf_nil W4) (fun j hj => .inl ((unhide HG).own2 j hj)) (by rw [← (unhide HTE).1]; omega))
      go_wp2_with fail
      refine (unhide HCN).mono ?_
      rintro e W12 ⟨rfl, T2', a1, a2, a3, a4⟩
      have HB : Hid (Ok (rdf W4) (fun s => s ∈ bks1 ∨ s ∈ ks1) W6.heap.size W12 eb1 T1' ∧ (∀ j, T1'.own eb1 j → (j < W7.heap.size ∨ W10.heap.size ≤ j) ∧ j < W11.heap.size) ∧ Ok (rdf W4) (fun s => s ∈ bks1 ∨ s ∈ ks1) W7.heap.size W12 eb2 T2' ∧ T2'.es = mkAll (rdf W4) T2.es Tw.es ∧ (∀ j, T2'.own eb2 j → j < W8.heap.size ∨ W11.heap.size ≤ j) ∧ WOK (rdf W4) (fun s => s ∈ bks1 ∨ s ∈ ks1) W8.heap.size W9.heap.size W12 wb Tw ∧ KOK (rdf W4) (fun s => s ∈ bks1 ∨ s ∈ ks1) W6.heap.size W12 ∧
          Fr (fun _ => False) W6 W12 ∧ VL W12 ⟨some ⟨lab, 0, none⟩, vn, vn⟩ ((lastB lk).map Value.bool) ∧ W10.heap.size ≤ W11.heap.size) := hide (by
        have z := unhide sz
        have G := unhide HG
        obtain ⟨b1, b2, b3, b4, b5, b6, b7, b8, b9⟩ := unhide HA
        have o2 := G.own2
        have l2 := b4.core.low
        refine ⟨b1.fr a3 (fun j hj h1 => by have := b3 j hj; have := l2 j h1; have := o2 j h1; omega), b3, a1, a2, fun j hj => (a4 j hj).imp (o2 j) id, b5.fr a3 (fun j h1 h2 h3 => by have := o2 j h3; omega), b6.fr a3 (fun j h1 h2 => by have := l2 j h2; omega),
          b7.trans a3 (fun j hj h1 => by have := l2 j h1; omega), b8.one a3 (fun h => by have := o2 _ h; have := G.lb.1; omega), b9⟩)
      have HES1 := hide (unhide HA).2.1
      clear a1 a2 a3 a4 HCN HA
      have HCN := hide (count_any (rdf W4) (fun s => s ∈ bks1 ∨ s ∈ ks1) W7.heap.size eb2 wb W8.heap.size W9.heap.size T2' Tw W12 (unhide HB).2.2.2.2.2.1 (unhide HB).2.2.1 ((unhide HB).2.2.2.2.2.2.1.more (by have := unhide sz; omega)) (by have := unhide sz; omega) (unhide HST).small (rdf_nil W4) (fun j hj => ((unhide HB).2.2.2.2.1 j hj).imp id (fun e => by have := unhide sz; have := (unhide HB).2.2.2.2.2.2.2.2.2; omega)) (by rw [(unhide HB).2.2.2.1]; have := length_mkAll (f := rdf W4) Tw.es T2.es; rw [← (unhide HTE).1] at this ⊢; omega))
      go_wp2_with fail
      refine (unhide HCN).mono ?_
      rintro e W13 ⟨rfl, T3, a1, a2, a3, a4⟩
      have HJ : Hid (S8 (rdf W4) (fun s => s ∈ bks1 ∨ s ∈ ks1) W6.heap.size eb1 eb2 T1' T3 ⟨ka, vn, kc⟩ ks1 ⟨some pa, vn, vn⟩ pv ⟨some ⟨lab, 0, none⟩, vn, vn⟩ (lastB lk) w W13) := hide (by
        have z := unhide sz
        have G := unhide HG
        obtain ⟨b1, b2, b3, b4, b5, b6, b7, b8, b9, b10⟩ := unhide HB
        have l2 := b3.core.low
        have f613 : Fr (fun _ => False) W6 W13 := b8.trans a3 (fun j hj h1 => by have := l2 j h1; omega)
        refine ⟨⟨W6.heap.size, b1.fr a3 (fun j hj h1 => by have := b2 j hj; have := l2 j h1; have := b5 j h1; omega), Nat.le_refl _⟩, ⟨W7.heap.size, a1, z.1⟩, b7.fr a3 (fun j h1 h2 => by have := l2 j h2; omega), G.kl.frame f613, G.vl.frame f613, b9.one a3 (fun h => by have := b5 _ h; have := G.lb; omega), G.f6.trans f613 (fun _ _ e => e)⟩)
      have HGK : Hid (gk (rdf W4) T3.es = gk (rdf W4) (mkAll (rdf W4) T1.es Tw.es) ∧ gk (rdf W4) T1'.es = gk (rdf W4) T3.es ∧ T1'.es.length = T3.es.length ∧ T1'.es.length ≤ bvn + vn ∧ AscE (rdf W4) T3.es) := hide (by
        have e2 := (unhide HB).2.2.2.1
        obtain ⟨t1, t2, t3, t4, t5⟩ := unhide HTE
        have e3 : gk (rdf W4) T3.es = gk (rdf W4) (mkAll (rdf W4) T1.es Tw.es) := by rw [a2, e2, ← t1]; exact mkAll_twice _ _ t2 t3
        have e4 : gk (rdf W4) T1'.es = gk (rdf W4) T3.es := by rw [e3, unhide HES1]
        refine ⟨e3, e4, ?_, ?_, a1.core.asc⟩
        · rw [← length_gk (f := rdf W4) T1'.es, e4, length_gk]
        · rw [unhide HES1]; have := length_mkAll (f := rdf W4) Tw.es T1.es; omega)
      clear a1 a2 a3 a4 HCN HB HES1 HG
      go_wp2_with fail
      go_loopw [19] (fun v19 wr => ∃ i : Nat, i ≤ vn ∧ v19 = .int .i64 i ∧ Hid (S8 (rdf W4) (fun s => s ∈ bks1 ∨ s ∈ ks1) W6.heap.size eb1 eb2 T1' T3 ⟨ka, vn, kc⟩ ks1 ⟨some pa, vn, vn⟩ pv ⟨some ⟨lab, 0, none⟩, vn, vn⟩ (lastB lk) w wr)) (fun v _ => vn - (intOf v).toNat)
      case atStart => exact ⟨0, Nat.zero_le _, rfl, HJ⟩
      case round =>
        obtain ⟨i, hi, rfl, HJ⟩ := hrel
        by_cases hil : i < vn
        · as_aux_lemma =>
          obtain ⟨b1, o1, u, q1, hc1, g1⟩ := (unhide HJ).ll.at hil
          cases q1
          rw [Nat.zero_add] at hc1
          rw [List.getElem?_map] at g1
          obtain ⟨bi, hbi, rfl⟩ := Option.map_eq_some_iff.1 g1
          have HBI := hide hbi
          clear g1 hbi
          cases bi with
          | false =>
            go_wp2_with fail
            go_roundw
            case rel => exact ⟨i + 1, by omega, by go_num, HJ⟩
            case measure => simp [intOf]; omega
          | true =>
            obtain ⟨b2, o2, y, rfl, hc2, k2⟩ := (unhide HJ).kl.at hil
            have hyK : y ∈ bks1 ∨ y ∈ ks1 := .inr (List.mem_of_getElem? k2)
            have hlk : lk[i]? = some (rdf W4 y) := (unhide HST).at k2
            have hip : i < pv.length := by rw [unhide HPL]; exact hil
            obtain ⟨x, hx⟩ : ∃ x, pv[i]? = some x := ⟨_, List.getElem?_eq_getElem hip⟩
            have hmem : (rdf W4 y, x) ∈ gk (rdf W4) Tw.es := by
              obtain ⟨l1, l2⟩ := List.getElem?_eq_some_iff.1 hlk
              have := mem_lasts lk pv (by rw [unhide HLL, unhide HPL]) i l1 hip (unhide HBI)
              rw [l2, (List.getElem?_eq_some_iff.1 hx).2] at this
              exact (unhide HHL).perm.mem_iff.2 this
            have HFD := hide (found8 (unhide HTE).2.1 (unhide HTE).2.2.1 (unhide HGK).2.2.2.2 (unhide HGK).1 hmem)
            obtain ⟨B2, ok2, hB2⟩ := (unhide HJ).ok2
            have HEF := hide (efirst_any (rdf W4) (fun s => s ∈ bks1 ∨ s ∈ ks1) B2 eb2 T3 y wr ok2 ((unhide HJ).kok.more hB2) (by have := (unhide HGK).2.2.1; have := (unhide HGK).2.2.2.1; omega) ((unhide HJ).kok y hyK).1)
            obtain ⟨m, hm⟩ : ∃ m, m = fidx (rdf W4) T3.es (rdf W4 y) false := ⟨_, rfl⟩
            rw [← hm] at HFD HEF
            have HKEY := hide (Ok.keys ok2)
            have HX := hide hx; have HYK := hide hyK
            have HC2 := hide hc2
            clear hlk hip hmem ok2 hB2 k2 hyK hm hx
            go_wp2_with fail
            refine (unhide HEF).mono ?_
            intro e W14 hp
            obtain ⟨s, z, rfl, hsz, hF14⟩ := hp.nth
            have HJ2 := hide ((unhide HJ).keep hF14)
            obtain ⟨b3, o3, u3, q3, hc3, k3⟩ := (unhide HJ2).vl.at hil
            cases q3
            have hu3 : u3 = .pointer x := by
              rw [List.getElem?_map, unhide HX] at k3
              exact (Option.some.inj k3).symm
            subst hu3
            have d2 : W14.cell? ⟨b2, o2 + i, none⟩ = some (.slice y.a y.n y.c) := (hF14.cell (p := ⟨b2, o2 + i, none⟩) (World.block_lt_of_cell? wr _ (unhide HC2)) (fun e => e)).trans (unhide HC2)
            clear hp hF14 k3 HJ hc1 hc2 HEF
            by_cases hmn : m < T3.es.length
            · have hdm : decide (m < T3.es.length) = true := decide_eq_true hmn
              have hsk := hsz hmn
              have hsK : s ∈ bks1 ∨ s ∈ ks1 := (unhide HKEY) (s, z) (List.mem_of_getElem? hsk)
              obtain ⟨c, hc⟩ : ∃ c, c = Pl.cmp (rdf W4 s) (rdf W4 y) := ⟨_, rfl⟩
              have HA := hide (Good.cmp (w1 := W4) (W := W14) (x := s) (y := y) ⟨((unhide HJ2).kok s hsK).1, (unhide HST).small s hsK⟩ ⟨((unhide HJ2).kok y (unhide HYK)).1, (unhide HST).small y (unhide HYK)⟩)
              rw [← hc] at HA
              have HCC := hide hc
              have HFD2 : Hid ((c = 0 → x ≠ none ∧ z = x) ∧ (c ≠ 0 → x = none)) := hide (by
                obtain ⟨f1, f2⟩ := unhide HFD
                refine ⟨fun h0 => ?_, fun h0 => f2 (fun a ha => ?_)⟩
                · have : rdf W4 s = rdf W4 y := by rw [hc] at h0; exact (Pl.cmp_zero_iff _ _).1 h0
                  exact f1 (s, z) hsk this
                · rw [hsk] at ha
                  have := Option.some.inj ha
                  subst this
                  intro h1
                  exact h0 (by rw [hc]; exact (Pl.cmp_zero_iff _ _).2 h1))
              clear hsz hsk hsK hc hmn HFD
              rw [hdm]
              by_cases hc0 : c = 0
              · obtain ⟨hx0, rfl⟩ := (unhide HFD2).1 hc0
                subst hc0
                cases z with
                | none => exact absurd rfl hx0
                | some ad =>
                  have hneq := neq_same (some ad)
                  clear hx0
                  go_wp2_with (go_at_call 16; refine (unhide HA _ rfl).mono ?_; rintro e w2 ⟨rfl, m2, hw2⟩)
                  go_roundw
                  case rel => exact ⟨i + 1, by omega, by go_num, hide ((unhide HJ2).keep ((Fr.refl _ W14).drewN m2))⟩
                  case measure => simp [intOf]; omega
              · have hxn := (unhide HFD2).2 hc0
                subst hxn
                have hcb : (c == 0) = false := by rw [beq_eq_false_iff_ne]; exact hc0
                clear hc0
                go_wp2_with (go_at_call 16; refine (unhide HA _ rfl).mono ?_; rintro e w2 ⟨rfl, m2, hw2⟩)
                go_roundw
                case rel => exact ⟨i + 1, by omega, by go_num, hide ((unhide HJ2).keep ((Fr.refl _ W14).drewN m2))⟩
                case measure => simp [intOf]; omega
            · have hdm : decide (m < T3.es.length) = false := decide_eq_false hmn
              have hxn : x = none := (unhide HFD).2 (fun a ha => absurd (List.getElem?_eq_some_iff.1 ha).1 hmn)
              subst hxn
              clear hsz hmn HFD
              rw [hdm]
              go_wp2_with fail
              go_roundw
              case rel => exact ⟨i + 1, by omega, by go_num, HJ2⟩
              case measure => simp [intOf]; omega
        · as_aux_lemma =>
          obtain ⟨n, hn1⟩ : ∃ n, T1'.es.length = n := ⟨_, rfl⟩
          have hn2 : T3.es.length = n := by rw [← (unhide HGK).2.2.1, hn1]
          have hnb : n ≤ bvn + vn := by rw [← hn1]; exact (unhide HGK).2.2.2.1
          have HN1 := hide hn1; have HN2 := hide hn2
          clear hn1 hn2
          obtain ⟨B1, ok1, hB1⟩ := (unhide HJ).ok1
          have HE1 := hide (efirst_nth (rdf W4) (fun s => s ∈ bks1 ∨ s ∈ ks1) B1 eb1 T1' wr ok1 ((unhide HJ).kok.more hB1) (by rw [unhide HN1]; omega) (rdf_nil W4))
          clear ok1 hB1
          go_wp2_with fail
          refine (unhide HE1).mono ?_
          rintro e W14 ⟨s1, x1, rfl, t1, t2⟩
          have HJ2 := hide ((unhide HJ).keep t2)
          have HS1 := hide t1
          rw [unhide HN1]
          clear t1 t2 HJ HE1
          obtain ⟨B2, ok2, hB2⟩ := (unhide HJ2).ok2
          have HE2 := hide (efirst_nth (rdf W4) (fun s => s ∈ bks1 ∨ s ∈ ks1) B2 eb2 T3 W14 ok2 ((unhide HJ2).kok.more hB2) (by rw [unhide HN2]; omega) (rdf_nil W4))
          clear ok2 hB2
          go_wp2_with fail
          refine (unhide HE2).mono ?_
          rintro e W15 ⟨s2, x2, rfl, t1, t2⟩
          have HJ3 := hide ((unhide HJ2).keep t2)
          have HS2 := hide t1
          rw [unhide HN2]
          clear t1 t2 HJ2 HE2
          go_wp2_with fail
          go_loopw [25, 26, 27, 28, 29, 30, 31] (fun v25 v26 v27 v28 v29 v30 v31 wr => ∃ (i : Nat) (s1 s2 : Sl) (x1 x2 : Option Addr) (b : Bool), i ≤ n ∧ v31 = .int .i64 i ∧ v25 = .slice s1.a s1.n s1.c ∧ v26 = .pointer x1 ∧ v27 = .bool b ∧ v28 = .slice s2.a s2.n s2.c ∧ v29 = .pointer x2 ∧ v30 = .bool b ∧ Hid (b = decide (i < n)) ∧ Hid (i < n → T1'.es[i]? = some (s1, x1) ∧ T3.es[i]? = some (s2, x2)) ∧ Hid (S8 (rdf W4) (fun s => s ∈ bks1 ∨ s ∈ ks1) W6.heap.size eb1 eb2 T1' T3 ⟨ka, vn, kc⟩ ks1 ⟨some pa, vn, vn⟩ pv ⟨some ⟨lab, 0, none⟩, vn, vn⟩ (lastB lk) w wr)) (fun _ _ _ _ _ _ v _ => n - (intOf v).toNat)
          case atStart => exact ⟨0, s1, s2, x1, x2, decide (0 < n), Nat.zero_le _, rfl, rfl, rfl, rfl, rfl, rfl, rfl, hide rfl, hide (fun h => ⟨(unhide HS1) (by rw [unhide HN1]; exact h), (unhide HS2) (by rw [unhide HN2]; exact h)⟩), HJ3⟩
          case round =>
            obtain ⟨i, s1, s2, x1, x2, b, hi, rfl, rfl, rfl, rfl, rfl, rfl, rfl, HBD, HSX, HJ⟩ := hrel
            cases b with
            | false =>
              go_wp2_with fail
              go_ret
              exact ⟨rfl, (unhide HJ).fr⟩
            | true =>
              have hin : i < n := of_decide_eq_true (unhide HBD).symm
              obtain ⟨p1, p2⟩ := (unhide HSX) hin
              obtain ⟨e1, e2⟩ := gk_at (unhide HGK).2.1 p1 p2
              subst e2
              obtain ⟨B1, ok1, hB1⟩ := (unhide HJ).ok1
              obtain ⟨B2, ok2, hB2⟩ := (unhide HJ).ok2
              have K1 : s1 ∈ bks1 ∨ s1 ∈ ks1 := Ok.keys ok1 (s1, x1) (List.mem_of_getElem? p1)
              have K2 : s2 ∈ bks1 ∨ s2 ∈ ks1 := Ok.keys ok2 (s2, x1) (List.mem_of_getElem? p2)
              have HA := hide (Good.cmp (w1 := W4) (W := wr) (x := s1) (y := s2) ⟨((unhide HJ).kok s1 K1).1, (unhide HST).small s1 K1⟩ ⟨((unhide HJ).kok s2 K2).1, (unhide HST).small s2 K2⟩)
              rw [e1, Pl.cmp_self] at HA
              have hneq := neq_same x1
              have HP1 := hide p1; have HP2 := hide p2
              clear p1 p2 e1 ok1 ok2 hB1 hB2 K1 K2
              go_wp2_with (go_at_call 16; refine (unhide HA _ rfl).mono ?_; rintro e w2 ⟨rfl, m2, hw2⟩)
              have HJ4 := hide ((unhide HJ).keep (w' := wr.drewN m2) ((Fr.refl _ wr).drewN m2))
              obtain ⟨B1, ok1, hB1⟩ := (unhide HJ4).ok1
              have HE1 := hide (eafter_nth (rdf W4) (fun s => s ∈ bks1 ∨ s ∈ ks1) B1 eb1 T1' (wr.drewN m2) ok1 ((unhide HJ4).kok.more hB1) (by rw [unhide HN1]; omega) i s1 x1 (unhide HP1))
              clear ok1 hB1
              refine (unhide HE1).mono ?_
              rintro e W16 ⟨s3, x3, rfl, t1, t2⟩
              have HJ5 := hide ((unhide HJ4).keep t2)
              have HS3 := hide t1
              rw [unhide HN1]
              clear t1 t2 HJ4 HE1 HJ
              obtain ⟨B2, ok2, hB2⟩ := (unhide HJ5).ok2
              have HE2 := hide (eafter_nth (rdf W4) (fun s => s ∈ bks1 ∨ s ∈ ks1) B2 eb2 T3 W16 ok2 ((unhide HJ5).kok.more hB2) (by rw [unhide HN2]; omega) i s2 x1 (unhide HP2))
              clear ok2 hB2
              go_wp2_with fail
              refine (unhide HE2).mono ?_
              rintro e W17 ⟨s4, x4, rfl, t1, t2⟩
              have HJ6 := hide ((unhide HJ5).keep t2)
              have HS4 := hide t1
              rw [unhide HN2]
              clear t1 t2 HJ5 HE2
              go_wp2_with fail
              go_roundw
              case rel => exact ⟨i + 1, s3, s4, x3, x4, decide (i + 1 < n), by omega, by go_num, rfl, rfl, rfl, rfl, rfl, rfl, hide rfl, hide (fun h => ⟨(unhide HS3) (by rw [unhide HN1]; exact h), (unhide HS4) (by rw [unhide HN2]; exact h)⟩), HJ6⟩
              case measure => simp [intOf]; omega
end Go.Proofs.Qxb6615626a.BV
