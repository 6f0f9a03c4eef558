/-
  FnCommitEachListAndTreeFormsAgree: the walk.
-/
import Derived.Test.Qxb6615626aLawv
import Derived.Test.Qxb6615626aByb
import Derived.Test.Qxb6615626aNeq
import Derived.Test.Qxb6615626aComS
import Derived.Deep.DeepCutAuto
namespace Go.Proofs.Qxb6615626a.BV
open Go.RowKit
set_option linter.unusedVariables false

def TruePost (w : World) (e : Ending) (w' : World) : Prop := e = .returned (.bool true) ∧ Fr (fun _ => False) w w'

theorem asc_pairwise {lk : List (List UInt8)} (h : ∀ i (h : i + 1 < lk.length), Pl.lt lk[i] lk[i + 1]) : lk.Pairwise Pl.lt := by
  rw [List.pairwise_iff_getElem]
  intro i j hi hj hij
  obtain ⟨d, rfl⟩ : ∃ d, j = i + 1 + d := ⟨j - (i + 1), by omega⟩
  clear hij
  induction d with
  | zero => exact h i hj
  | succ d ih =>
    have := ih (by omega)
    exact Pl.lt_trans this (h (i + 1 + d) hj)

/-- keys that ascend: the tree holds them as they stand, whichever way they were put in -/
theorem asc_held {f : Sl → List UInt8} {ks : List Sl} {lk : List (List UInt8)} {vs : List (Option Addr)} {T : Tr} {rev : Bool} (h : T.es = insAll f [] (ordOf ks vs rev)) (hf : ks.map f = lk) (ha : lk.Pairwise Pl.lt) : gk f T.es = lk.zip vs := by
  have hp : (gk f (ordOf ks vs rev)).Perm (lk.zip vs) := by
    rw [← gk_zip ks vs lk hf]
    unfold ordOf
    cases rev with
    | false => exact List.Perm.refl _
    | true => exact (List.reverse_perm _).map _
  have hs : (lk.zip vs).Pairwise fun a b => Pl.lt a.1 b.1 := by
    clear hp hf h
    induction lk generalizing vs with
    | nil => exact List.Pairwise.nil
    | cons x xs ih =>
      cases vs with
      | nil => exact List.Pairwise.nil
      | cons v vs =>
        obtain ⟨h1, h2⟩ := List.pairwise_cons.1 ha
        exact List.pairwise_cons.2 ⟨fun b hb => h1 b.1 (List.of_mem_zip (a := b.1) (b := b.2) hb).1, ih h2⟩
  have hd : (lk.zip vs).Pairwise fun a b => a.1 ≠ b.1 := hs.imp fun h => ne_of_lt h
  have hsym : ∀ a b : List UInt8 × Option Addr, a.1 ≠ b.1 → b.1 ≠ a.1 := fun a b h => h.symm
  have hpp : (gk f T.es).Perm (lk.zip vs) := by
    rw [h]
    refine (insAll_nil _).trans ?_
    rw [lasts_all _ ((hp.pairwise_iff (fun {a b} h => hsym a b h)).2 hd)]
    exact hp
  have hA : AscE f T.es := by rw [h]; exact AscE.insAll _ _ AscE.nil
  exact asc_unique _ _ hA.gk hs hpp

set_option maxRecDepth 20000 in
set_option maxHeartbeats 8000000 in
theorem law6_any (k v d : Sl) (ks vs : List Sl) (lk lv : List (List UInt8)) (bs : List Bool) (w : World) (h1 : LstW w k ks lk) (h2 : LstW w v vs lv) (h3 : VL w d (bs.map Value.bool)) (hn1 : k.n ≤ maxLen) (hn2 : v.n ≤ maxLen) (hn3 : d.n ≤ maxLen) :
    Calls Try.prog 6 #[k.v, v.v, d.v] w (TruePost w) := by
  have HZ := hide (zzBytes26 k ks v vs d w h1.lst h1.small hn1 h2.lst h2.small hn2 hn3)
  have HFT := hide (zzWritesFit_any k v d ks vs 4096 w h1.lst h2.lst h1.small h2.small hn1 hn2 hn3 (by omega))
  obtain ⟨ka, kn, kc⟩ := k
  have H1 := hide h1; have H2 := hide h2; have H3 := hide h3; have HN3 := hide hn3
  clear h1 h2 h3 hn2 hn3
  unfold maxLen at hn1
  simp only at hn1
  simp only [Sl.v]
  go_enter Try.func6, Try.ntmps6
  go_wp2_with fail
  refine (unhide HZ).mono ?_
  rintro r W ⟨hW, b, rfl⟩
  rw [hW]; clear hW W HZ
  cases b with
  | false =>
    go_wp2_with fail
    go_ret
    exact ⟨rfl, Fr.refl _ w⟩
  | true =>
  go_wp2_with fail
  refine (unhide HFT).mono ?_
  rintro r W ⟨hW, b, rfl, hb⟩
  rw [hW]; clear hW W HFT
  cases b with
  | false =>
    go_wp2_with fail
    go_ret
    exact ⟨rfl, Fr.refl _ w⟩
  | true =>
  have HF := hide (hb rfl)
  clear hb
  by_cases hk0 : kn = 0
  · subst hk0
    go_wp2_with fail
    go_ret
    exact ⟨rfl, Fr.refl _ w⟩
  have hkb : ((kn : Int) == 0) = false := by rw [beq_eq_false_iff_ne]; omega
  have HAS := hide (zzAscending_any ⟨ka, kn, kc⟩ ks lk w (unhide H1) (by have h1 : kn ≤ 4096 := (unhide HF).1; show kn ≤ _; omega))
  go_wp2_with fail
  refine (unhide HAS).mono ?_
  rintro r W1 ⟨⟨m1, hW1⟩, b, rfl, hb⟩
  have FR1 : Fr (fun _ => False) w W1 := by rw [hW1]; exact (Fr.refl _ w).drewN m1
  clear hW1 HAS
  cases b with
  | false =>
    have HFR1 := hide FR1
    clear FR1
    go_wp2_with fail
    go_ret
    exact ⟨rfl, unhide HFR1⟩
  | true =>
  have HASC := hide (asc_pairwise (hb rfl))
  have HFR1 := hide FR1
  clear hb FR1
  have HC1 := hide (zzCloneAll_any ⟨ka, kn, kc⟩ ks lk W1 ((unhide H1).frame (unhide HFR1)) (by have h1 : kn ≤ 4096 := (unhide HF).1; show kn ≤ _; omega) (unhide HF).2.2.2.1)
  go_wp2_with fail
  refine (unhide HC1).mono ?_
  rintro r W2 ⟨k1, ks1, rfl, c1, c2, c3, c4, c5⟩
  have c6 : Fr (fun _ => False) w W2 := (unhide HFR1).trans c4 (fun _ _ e => e)
  have HC2 := hide (zzCloneAll_any v vs lv W2 ((unhide H2).frame c6) (by have h1 : kn ≤ 4096 := (unhide HF).1; have h2 : v.n = kn := (unhide HF).2.1; omega) (unhide HF).2.2.2.2)
  have HS1 := hide (⟨c1, c2, fun t ht => (c3 t ht).imp id (fun h => ⟨Nat.le_trans (unhide HFR1).size h.1, h.2⟩), c6⟩ : k1.n = kn ∧ LstB W2 k1 ks1 lk ∧ (∀ t ∈ ks1, t.made w.heap.size W2.heap.size) ∧ Fr (fun _ => False) w W2)
  clear c1 c2 c3 c4 c5 c6 HC1
  go_wp2_with fail
  refine (unhide HC2).mono ?_
  rintro r W3 ⟨v1, vs1, rfl, c1, c2, c3, c4, c5⟩
  have HST : Hid (CStart w W3 k1 v1 ks1 vs1 lk lv) := hide (by
    obtain ⟨a1, a2, a3, a4⟩ := unhide HS1
    have h1 : kn ≤ 4096 := (unhide HF).1
    have h2 : v.n = kn := (unhide HF).2.1
    exact ⟨a4.trans c4 (fun _ _ e => e), a2.frame c4, c2, by omega, by omega, by omega, fun t ht => (a3 t ht).imp id (fun h => ⟨h.1, Nat.lt_of_lt_of_le h.2 c4.size⟩)⟩)
  have HKN := hide (unhide HS1).1
  clear c1 c2 c3 c4 c5 HC2 HS1
  obtain ⟨ka1, kn1, kc1⟩ := k1
  obtain ⟨va1, vn1, vc1⟩ := v1
  have hkn : kn1 = kn := unhide HKN
  subst hkn
  have hvn : vn1 = kn1 := (unhide HST).nv
  subst hvn
  have hkn1 : vn1 ≤ 4096 := (unhide HF).1
  have HDN := hide (show d.n ≤ maxLen from unhide HN3)
  simp only [Sl.v]
  have HV := hide (zzVersions_any ⟨va1, vn1, vc1⟩ d vs1 bs W3 (unhide HST).hv.lst ((unhide H3).frame (unhide HST).fr) (by show vn1 ≤ _; omega) (unhide HDN))
  go_wp2_with fail
  refine (unhide HV).mono ?_
  rintro r W4 ⟨pa, pv, rfl, q1, q2, q3⟩
  have HT := hide (zzTree_any (rdf W3) (· ∈ ks1) ⟨ka1, vn1, kc1⟩ ⟨some pa, vn1, vn1⟩ ks1 pv true W4 ((unhide HST).hk.lst.frame q3) q2 rfl (by show vn1 ≤ _; omega) ((unhide HST).kok W4 q3) (fun s hs => (unhide HST).hk.small s hs) (fun t ht => ht))
  have HPV := hide (⟨q1, q2, q3⟩ : pv.length = vn1 ∧ VL W4 ⟨some pa, vn1, vn1⟩ (pv.map Value.pointer) ∧ Fr (fun _ => False) W3 W4)
  clear q1 q2 q3 HV
  go_wp2_with fail
  refine (unhide HT).mono ?_
  rintro r W5 ⟨eb, T, rfl, x1, x2, x3⟩
  have HZE := hide (asc_held x2 (unhide HST).fk (unhide HASC))
  have hlk : lk.length = vn1 := (unhide HST).len.2
  have hTl : T.es.length = vn1 := by rw [← length_gk (f := rdf W3), unhide HZE, List.length_zip, hlk, (unhide HPV).1, Nat.min_self]
  have HTL := hide hTl; have HLK := hide hlk
  have HX := hide (⟨x1, x3⟩ : Ok (rdf W3) (· ∈ ks1) W4.heap.size W5 eb T ∧ Fr (fun _ => False) W4 W5)
  clear x1 x2 x3 HT hTl hlk
  go_wp2_with fail
  refine (newAll_any eb vn1 W5).mono ?_
  rintro r W6 ⟨rfl, z1, z2⟩
  obtain ⟨cm, hcm⟩ : ∃ c, c = W5.heap.size := ⟨_, rfl⟩
  rw [← hcm] at z1 ⊢
  have F46 : Fr (fun _ => False) W4 W6 := (unhide HX).2.trans z2 (fun _ _ e => e)
  have F36 : Fr (fun _ => False) W3 W6 := (unhide HPV).2.2.trans F46 (fun _ _ e => e)
  have HNS := hide (newSome_any ⟨ka1, vn1, kc1⟩ ⟨some pa, vn1, vn1⟩ ks1 pv W6 ((unhide HST).hk.lst.frame F36) ((unhide HPV).2.1.frame F46) rfl hkn1)
  have HC := hide (⟨(unhide HX).1.fr z2 (fun _ _ e => e), z1, F46⟩ : Ok (rdf W3) (· ∈ ks1) W4.heap.size W6 eb T ∧ CmAll W6 cm eb vn1 ∧ Fr (fun _ => False) W4 W6)
  clear z1 z2 F46 F36 hcm HX
  go_wp2_with fail
  refine (unhide HNS).mono ?_
  rintro r W7 ⟨cm2, g2, rfl, s1, s2, s3, s4, s5⟩
  have hzl : (ks1.zip pv).length = vn1 := by rw [List.length_zip, (unhide HPV).1, (unhide HST).len.1, Nat.min_self]
  have F47 : Fr (fun _ => False) W4 W7 := (unhide HC).2.2.trans s3 (fun _ _ e => e)
  have HZA := hide (zzComAll (rdf W3) (· ∈ ks1) W4.heap.size eb T W7 cm vn1 ((unhide HC).1.fr s3 (fun _ _ e => e)) (((unhide HST).kok W4 (unhide HPV).2.2).fr F47 (fun _ _ e => e)) (by rw [unhide HTL]; omega) (rdf_nil W3) ((unhide HC).2.1.fr s3 (fun e => e)) (unhide HTL) (by omega) F47.size)
  have HKEY := hide (Ok.keys (unhide HC).1)
  have HS := hide (⟨s1, s2, F47, (unhide HC).2.1.fr s3 (fun e => e), hzl⟩ : CmSome W7 cm2 g2 (ks1.zip pv).length ∧ Row W7 g2 91 2 (ks1.zip pv).length (ks1.zip pv).length (wcs (ks1.zip pv)) ∧ Fr (fun _ => False) W4 W7 ∧ CmAll W7 cm eb vn1 ∧ (ks1.zip pv).length = vn1)
  clear s1 s2 s3 s4 s5 hzl F47 HNS HC
  go_wp2_with fail
  refine (unhide HZA).mono ?_
  rintro r W8 ⟨v1, v2, rfl, o1, o2, o3⟩
  obtain ⟨ga, gc, rfl, l1⟩ := OutB.lst o1
  obtain ⟨gb, gd, rfl, l2⟩ := OutB.ptr o2
  rw [unhide HTL] at l1 l2 ⊢
  have HZS := hide (zzComSome (ks1.zip pv) W8 cm2 g2 (by rw [(unhide HS).2.2.2.2]; omega) ((unhide HS).2.1.fr o3 (fun e => e)) ((unhide HS).1.fr o3 (fun e => e)))
  have HG := hide (⟨l1, l2, o3⟩ : Lst W8 ⟨ga, vn1, gc⟩ (kss T.es) ∧ VL W8 ⟨gb, vn1, gd⟩ (vvs T.es) ∧ Fr (fun _ => False) W7 W8)
  clear o1 o2 o3 l1 l2 HZA
  go_wp2_with fail
  refine (unhide HZS).mono ?_
  rintro r W9 ⟨v1, v2, rfl, o1, o2, o3⟩
  obtain ⟨ha, hc, rfl, l1⟩ := OutB.lst o1
  obtain ⟨hb, hd, rfl, l2⟩ := OutB.ptr o2
  rw [(unhide HS).2.2.2.2] at l1 l2 ⊢
  have F79 : Fr (fun _ => False) W7 W9 := (unhide HG).2.2.trans o3 (fun _ _ e => e)
  have F49 : Fr (fun _ => False) W4 W9 := (unhide HS).2.2.1.trans F79 (fun _ _ e => e)
  have HF39 := hide (show Fr (fun _ => False) W3 W9 from (unhide HPV).2.2.trans F49 (fun _ _ e => e))
  have HGK := hide ((unhide HG).1.frame o3); have HGV := hide ((unhide HG).2.1.frame o3); have HLK2 := hide l1; have HLV := hide l2
  have HKS := hide ((unhide HST).hk.lst.frame (unhide HF39)); have HVS := hide ((unhide HPV).2.1.frame F49)
  have HL1 := hide (len_any cm vn1 W9 (((unhide HS).2.2.2.1.fr F79 (fun e => e)).c2))
  have HL2 := hide (len_any cm2 vn1 W9 (by have := ((unhide HS).1.fr F79 (fun e => e)).c2; rw [(unhide HS).2.2.2.2] at this; exact this))
  have hcc : cm ≠ cm2 ∨ True := .inr trivial
  clear o1 o2 o3 l1 l2 F79 F49 HZS hcc
  go_wp2_with fail
  refine (unhide HL1).mono ?_
  rintro r W10 ⟨rfl, hW10⟩
  rw [hW10]; clear hW10 W10
  go_wp2_with fail
  refine (unhide HL2).mono ?_
  rintro r W10 ⟨rfl, hW10⟩
  rw [hW10]; clear hW10 W10
  go_wp2_with fail
  go_loopw [15] (fun v15 wr => ∃ i m : Nat, i ≤ vn1 ∧ v15 = .int .i64 i ∧ Hid (wr = W9.drewN m)) (fun v _ => vn1 - (intOf v).toNat)
  case atStart => exact ⟨0, 0, Nat.zero_le _, rfl, hide rfl⟩
  case round =>
    obtain ⟨i, m, hi, rfl, HW⟩ := hrel
    by_cases hil : i < vn1
    · as_aux_lemma =>
      have hiT : i < T.es.length := by rw [unhide HTL]; exact hil
      have hik : i < ks1.length := by rw [(unhide HST).len.1]; exact hil
      have hiv : i < pv.length := by rw [(unhide HPV).1]; exact hil
      have hil2 : i < lk.length := by rw [unhide HLK]; exact hil
      obtain ⟨b1, o1, q1, rfl, c1, k1⟩ := (unhide HGK).at hil
      obtain ⟨b2, o2, q2, rfl, c2, k2⟩ := (unhide HGV).at hil
      obtain ⟨b3, o3, q3, rfl, c3, k3⟩ := (unhide HLK2).at hil
      obtain ⟨b4, o4, q4, rfl, c4, k4⟩ := (unhide HLV).at hil
      obtain ⟨b5, o5, q5, rfl, c5, k5⟩ := (unhide HKS).at hil
      obtain ⟨b6, o6, q6, e6, c6, k6⟩ := (unhide HVS).at hil
      cases e6
      have hz : (ks1.zip pv)[i]? = some (ks1[i], pv[i]) := List.getElem?_zip_eq_some (z := (_, _)).2 ⟨List.getElem?_eq_getElem hik, List.getElem?_eq_getElem hiv⟩
      have hg : (gk (rdf W3) T.es)[i]? = some (lk[i], pv[i]) := by rw [unhide HZE]; exact List.getElem?_zip_eq_some (z := (_, _)).2 ⟨List.getElem?_eq_getElem hil2, List.getElem?_eq_getElem hiv⟩
      rw [gk_get _ _ hiT] at hg
      simp only [Option.some.injEq, Prod.mk.injEq] at hg
      have e1 : q1 = T.es[i].1 := by unfold kss at k1; rw [List.getElem?_map, List.getElem?_eq_getElem hiT] at k1; exact (Option.some.inj k1).symm
      have e2 : q2 = .pointer pv[i] := by unfold vvs at k2; rw [List.getElem?_map, List.getElem?_eq_getElem hiT] at k2; rw [← hg.2]; exact (Option.some.inj k2).symm
      have e3 : q3 = ks1[i] := by unfold kss at k3; rw [List.getElem?_map, hz] at k3; exact (Option.some.inj k3).symm
      have e4 : q4 = .pointer pv[i] := by unfold vvs at k4; rw [List.getElem?_map, hz] at k4; exact (Option.some.inj k4).symm
      have e5 : q5 = ks1[i] := by rw [List.getElem?_eq_getElem hik] at k5; exact (Option.some.inj k5).symm
      have e6 : q6 = .pointer pv[i] := by rw [List.getElem?_map, List.getElem?_eq_getElem hiv] at k6; exact (Option.some.inj k6).symm
      obtain ⟨x, hx⟩ : ∃ x, x = pv[i] := ⟨_, rfl⟩
      obtain ⟨y, hy⟩ : ∃ y, y = ks1[i] := ⟨_, rfl⟩
      obtain ⟨s, hs⟩ : ∃ s, s = T.es[i].1 := ⟨_, rfl⟩
      rw [← hx] at e2 e4 e6
      rw [← hy] at e3 e5
      rw [← hs] at e1
      subst e1 e2 e3 e4 e5 e6
      have p1 : wr.cell? ⟨b1, o1 + i, none⟩ = some (.slice q1.a q1.n q1.c) := by rw [unhide HW]; exact c1
      have p2 : wr.cell? ⟨b2, o2 + i, none⟩ = some (.pointer x) := by rw [unhide HW]; exact c2
      have p3 : wr.cell? ⟨b3, o3 + i, none⟩ = some (.slice q5.a q5.n q5.c) := by rw [unhide HW]; exact c3
      have p4 : wr.cell? ⟨b4, o4 + i, none⟩ = some (.pointer x) := by rw [unhide HW]; exact c4
      have p5 : wr.cell? ⟨b5, o5 + i, none⟩ = some (.slice q5.a q5.n q5.c) := by rw [unhide HW]; exact c5
      have p6 : wr.cell? ⟨b6, o6 + i, none⟩ = some (.pointer x) := by rw [unhide HW]; exact c6
      have FW : Fr (fun _ => False) W3 wr := by rw [unhide HW]; exact (unhide HF39).drewN _
      have G1 : Good W3 wr q1 := by rw [hs]; exact ((unhide HST).good _ ((unhide HKEY) _ (List.getElem_mem hiT))).frame FW
      have G2 : Good W3 wr q5 := by rw [hy]; exact ((unhide HST).good _ (List.getElem_mem hik)).frame FW
      have hq : rdf W3 q1 = rdf W3 q5 := by
        have h1 := (unhide HST).at (List.getElem?_eq_getElem hik)
        rw [List.getElem?_eq_getElem hil2] at h1
        rw [hs, hy, hg.1]
        exact Option.some.inj h1
      have HA := hide (G1.cmp G2).drew
      rw [hq, Pl.cmp_self] at HA
      have hneq := neq_same x
      clear hiT hik hiv hil2 c1 k1 c2 k2 c3 k3 c4 k4 c5 k5 c6 k6 hz hg hx hy hs FW G1 G2 hq
      go_wp2_with fail
      go_quiet ((go_at_call 16; with_reducible exact Calls.quiet_of (unhide HA _)))
      go_wp2_with fail
      go_quiet ((go_at_call 16; with_reducible exact quiet_two (unhide HA _)))
      go_wp2_with fail
      go_roundw
      case rel => exact ⟨i + 1, _, by omega, by go_num, hide (by rw [unhide HW, World.drewN_drewN])⟩
      case measure => simp [intOf]; omega
    · as_aux_lemma =>
      go_wp2_with fail
      go_ret
      exact ⟨rfl, (unhide HST).fr.trans (show Fr (fun _ => False) W3 wr from by rw [unhide HW]; exact (unhide HF39).drewN _) (fun _ _ e => e)⟩
end Go.Proofs.Qxb6615626a.BV
