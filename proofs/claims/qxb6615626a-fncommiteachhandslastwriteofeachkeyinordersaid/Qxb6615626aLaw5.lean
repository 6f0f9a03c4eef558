/-
  FnCommitEachHandsLastWriteOfEachKeyInOrder: the walk.
-/
import Derived.Test.Qxb6615626aLawv
import Derived.Test.Qxb6615626aByb
import Derived.Test.Qxb6615626aNeq
import Derived.Deep.DeepCutAuto
namespace Go.Proofs.Qxb6615626a.BV
open Go.RowKit
set_option linter.unusedVariables false

def TruePost (w : World) (e : Ending) (w' : World) : Prop := e = .returned (.bool true) ∧ Fr (fun _ => False) w w'

set_option maxRecDepth 20000 in
set_option maxHeartbeats 8000000 in
theorem law5_any (k v d : Sl) (ks vs : List Sl) (lk lv : List (List UInt8)) (bs : List Bool) (w : World) (h1 : LstW w k ks lk) (h2 : LstW w v vs lv) (h3 : VL w d (bs.map Value.bool)) (hn1 : k.n ≤ maxLen) (hn2 : v.n ≤ maxLen) (hn3 : d.n ≤ maxLen) :
    Calls Try.prog 5 #[k.v, v.v, d.v] w (TruePost w) := by
  have HZ := hide (zzBytes18 k ks v vs d w h1.lst h1.small hn1 h2.lst h2.small hn2 hn3)
  have HFT := hide (zzWritesFit_any k v d ks vs 1024 w h1.lst h2.lst h1.small h2.small hn1 hn2 hn3 (by omega))
  obtain ⟨ka, kn, kc⟩ := k
  have H1 := hide h1; have H2 := hide h2; have H3 := hide h3; have HN3 := hide hn3
  clear h1 h2 h3 hn2 hn3
  unfold maxLen at hn1
  simp only at hn1
  simp only [Sl.v]
  go_enter Try.func5, Try.ntmps5
  go_wp2_with fail
  refine (unhide HZ).mono ?_
  rintro r W ⟨hW, b, rfl⟩
  rw [hW]; clear hW W HZ
  cases b with
  | false =>
    go_wp2_with fail
    go_ret
    exact ⟨rfl, Fr.refl _ w⟩
  | true =>
  go_wp2_with fail
  refine (unhide HFT).mono ?_
  rintro r W ⟨hW, b, rfl, hb⟩
  rw [hW]; clear hW W HFT
  cases b with
  | false =>
    go_wp2_with fail
    go_ret
    exact ⟨rfl, Fr.refl _ w⟩
  | true =>
  have HF := hide (hb rfl)
  clear hb
  by_cases hk0 : kn = 0
  · subst hk0
    go_wp2_with fail
    go_ret
    exact ⟨rfl, Fr.refl _ w⟩
  have hkb : ((kn : Int) == 0) = false := by rw [beq_eq_false_iff_ne]; omega
  have HC1 := hide (zzCloneAll_any ⟨ka, kn, kc⟩ ks lk w (unhide H1) (by have h1 : kn ≤ 1024 := (unhide HF).1; show kn ≤ _; omega) (unhide HF).2.2.2.1)
  go_wp2_with fail
  refine (unhide HC1).mono ?_
  rintro r W2 ⟨k1, ks1, rfl, c1, c2, c3, c4, c5⟩
  have HC2 := hide (zzCloneAll_any v vs lv W2 ((unhide H2).frame c4) (by have h1 : kn ≤ 1024 := (unhide HF).1; have h2 : v.n = kn := (unhide HF).2.1; omega) (unhide HF).2.2.2.2)
  have HS1 := hide (⟨c1, c2, c3, c4⟩ : k1.n = kn ∧ LstB W2 k1 ks1 lk ∧ (∀ t ∈ ks1, t.made w.heap.size W2.heap.size) ∧ Fr (fun _ => False) w W2)
  clear c1 c2 c3 c4 c5 HC1
  go_wp2_with fail
  refine (unhide HC2).mono ?_
  rintro r W3 ⟨v1, vs1, rfl, c1, c2, c3, c4, c5⟩
  have HST : Hid (CStart w W3 k1 v1 ks1 vs1 lk lv) := hide (by
    obtain ⟨a1, a2, a3, a4⟩ := unhide HS1
    have h1 : kn ≤ 1024 := (unhide HF).1
    have h2 : v.n = kn := (unhide HF).2.1
    exact ⟨a4.trans c4 (fun _ _ e => e), a2.frame c4, c2, by omega, by omega, by omega, fun t ht => (a3 t ht).imp id (fun h => ⟨h.1, Nat.lt_of_lt_of_le h.2 c4.size⟩)⟩)
  have HKN := hide (unhide HS1).1
  clear c1 c2 c3 c4 c5 HC2 HS1
  obtain ⟨ka1, kn1, kc1⟩ := k1
  obtain ⟨va1, vn1, vc1⟩ := v1
  have hkn : kn1 = kn := unhide HKN
  subst hkn
  have hvn : vn1 = kn1 := (unhide HST).nv
  subst hvn
  have hkn1 : vn1 ≤ 1024 := (unhide HF).1
  have HDN := hide (show d.n ≤ maxLen from unhide HN3)
  simp only [Sl.v]
  have HV := hide (zzVersions_any ⟨va1, vn1, vc1⟩ d vs1 bs W3 (unhide HST).hv.lst ((unhide H3).frame (unhide HST).fr) (by show vn1 ≤ _; omega) (unhide HDN))
  go_wp2_with fail
  refine (unhide HV).mono ?_
  rintro r W4 ⟨pa, pv, rfl, q1, q2, q3⟩
  have HT := hide (zzTree_any (rdf W3) (· ∈ ks1) ⟨ka1, vn1, kc1⟩ ⟨some pa, vn1, vn1⟩ ks1 pv false W4 ((unhide HST).hk.lst.frame q3) q2 rfl (by show vn1 ≤ _; omega) ((unhide HST).kok W4 q3) (fun s hs => (unhide HST).hk.small s hs) (fun t ht => ht))
  have HPV := hide (⟨q1, q2, q3⟩ : pv.length = vn1 ∧ VL W4 ⟨some pa, vn1, vn1⟩ (pv.map Value.pointer) ∧ Fr (fun _ => False) W3 W4)
  clear q1 q2 q3 HV
  go_wp2_with fail
  refine (unhide HT).mono ?_
  rintro r W5 ⟨eb, T, rfl, x1, x2, x3⟩
  have HLB := hide (zzLast_any ⟨ka1, vn1, kc1⟩ ks1 lk W5 (((unhide HST).hk.frame (unhide HPV).2.2).frame x3) (by show vn1 ≤ _; omega))
  have F35 : Fr (fun _ => False) W3 W5 := (unhide HPV).2.2.trans x3 (fun _ _ e => e)
  have HHL := hide (heldL_of x2 (unhide HST).fk)
  have HX := hide (⟨x1, (unhide HPV).2.1.frame x3, F35, x3⟩ : Ok (rdf W3) (· ∈ ks1) W4.heap.size W5 eb T ∧ VL W5 ⟨some pa, vn1, vn1⟩ (pv.map Value.pointer) ∧ Fr (fun _ => False) W3 W5 ∧ Fr (fun _ => False) W4 W5)
  clear x1 x2 x3 F35 HT
  go_wp2_with fail
  refine (unhide HLB).mono ?_
  rintro r W6 ⟨la, rfl, y1, y2⟩
  have F36 : Fr (fun _ => False) W3 W6 := (unhide HX).2.2.1.trans y2 (fun _ _ e => e)
  have HF36 := hide F36
  have HY := hide (⟨(unhide HX).1.fr y2 (fun _ _ e => e), (unhide HX).2.1.frame y2, y1, (unhide HST).hk.lst.frame F36, (unhide HX).2.2.2.trans y2 (fun _ _ e => e)⟩ : Ok (rdf W3) (· ∈ ks1) W4.heap.size W6 eb T ∧ VL W6 ⟨some pa, vn1, vn1⟩ (pv.map Value.pointer) ∧ VL W6 ⟨some la, vn1, vn1⟩ ((lastB lk).map Value.bool) ∧ Lst W6 ⟨ka1, vn1, kc1⟩ ks1 ∧ Fr (fun _ => False) W4 W6)
  clear y1 y2 F36 HX HLB
  have HLL := hide (show lk.length = vn1 from (unhide HST).len.2)
  go_wp2_with fail
  go_loopw [10, 11] (fun v10 v11 wr => ∃ k dd : Nat, k ≤ vn1 ∧ v11 = .int .i64 k ∧ v10 = .int .i64 dd ∧ dd ≤ k ∧ Hid (dd + cntL (fun _ => true) (lk.drop k) = cntL (fun _ => true) lk) ∧ wr = W6) (fun _ v _ => vn1 - (intOf v).toNat)
  case atStart => exact ⟨0, 0, Nat.zero_le _, rfl, rfl, Nat.le_refl _, hide (by rw [List.drop_zero, Nat.zero_add]), rfl⟩
  case round =>
    obtain ⟨k, dd, hk, rfl, rfl, hdk, HD, hwr⟩ := hrel
    by_cases hkl : k < vn1
    · as_aux_lemma =>
      obtain ⟨b1, o1, u, e1, hc1, g1⟩ := (unhide HY).2.2.1.at hkl
      cases e1
      rw [List.getElem?_map] at g1
      obtain ⟨bk, hbk, rfl⟩ := Option.map_eq_some_iff.1 g1
      have hst := cntL_step (fun _ => true) lk k (by rw [unhide HLL]; exact hkl) bk hbk
      have HSTP := hide hst
      subst hwr
      clear g1 hbk hst
      cases bk with
      | true =>
        go_wp2_with fail
        go_roundw
        case rel => exact ⟨k + 1, dd + 1, by omega, by go_num, by go_num, by omega, hide (by have h1 := unhide HSTP; have h2 := unhide HD; simp at h1; omega), by first | rfl | trivial⟩
        case measure => simp [intOf]; omega
      | false =>
        go_wp2_with fail
        go_roundw
        case rel => exact ⟨k + 1, dd, by omega, by go_num, rfl, by omega, hide (by have h1 := unhide HSTP; have h2 := unhide HD; simp at h1; omega), by first | rfl | trivial⟩
        case measure => simp [intOf]; omega
    · as_aux_lemma =>
      have hdd : dd = cntL (fun _ => true) lk := by
        have h1 := unhide HD
        rw [List.drop_eq_nil_iff.2 (by rw [unhide HLL]; omega)] at h1
        simpa [cntL] using h1
      have hTd : T.es.length = dd := by rw [hdd]; exact (unhide HHL).len (by rw [unhide HLL, (unhide HPV).1])
      have hdpos : 0 < dd := by rw [hdd]; exact cntL_pos lk (fun e => by have h1 := unhide HLL; rw [e] at h1; simp at h1; omega)
      have hd1024 : dd ≤ 1024 := by have := cntL_le (fun _ => true) lk; rw [unhide HLL] at this; omega
      subst hwr
      have HTD := hide hTd
      clear hdd hTd HD
      go_wp2_with fail
      refine (newAll_any eb dd wr).mono ?_
      rintro r W7 ⟨rfl, z1, z2⟩
      obtain ⟨cm, hcm⟩ : ∃ c, c = wr.heap.size := ⟨_, rfl⟩
      rw [← hcm] at z1 ⊢
      have F47 : Fr (fun _ => False) W4 W7 := (unhide HY).2.2.2.2.trans z2 (fun _ _ e => e)
      have HZC := hide (zzComAll (rdf W3) (· ∈ ks1) W4.heap.size eb T W7 cm dd ((unhide HY).1.fr z2 (fun _ _ e => e)) (((unhide HST).kok W4 (unhide HPV).2.2).fr F47 (fun _ _ e => e)) (by rw [unhide HTD]; omega) (rdf_nil W3) z1 (unhide HTD) hdpos F47.size)
      have HCM := hide z1
      have HF67 := hide z2
      clear z1 z2 hcm F47
      go_wp2_with fail
      refine (unhide HZC).mono ?_
      rintro r W8 ⟨v1, v2, rfl, o1, o2, o3⟩
      obtain ⟨ga, gc, rfl, l1⟩ := OutB.lst o1
      obtain ⟨gb, gd, rfl, l2⟩ := OutB.ptr o2
      rw [unhide HTD] at l1 l2 ⊢
      have F68 : Fr (fun _ => False) wr W8 := (unhide HF67).trans o3 (fun _ _ e => e)
      have HGK := hide l1; have HGV := hide l2
      have HF38 := hide (show Fr (fun _ => False) W3 W8 from (unhide HF36).trans F68 (fun _ _ e => e))
      have HY8 := hide (⟨(unhide HY).2.1.frame F68, (unhide HY).2.2.1.frame F68, (unhide HY).2.2.2.1.frame F68⟩ : VL W8 ⟨some pa, vn1, vn1⟩ (pv.map Value.pointer) ∧ VL W8 ⟨some la, vn1, vn1⟩ ((lastB lk).map Value.bool) ∧ Lst W8 ⟨ka1, vn1, kc1⟩ ks1)
      have HKEY := hide (Ok.keys (unhide HY).1)
      have HLEN := hide (len_any cm dd W8 (((unhide HCM).fr o3 (fun e => e)).c2))
      clear o1 o2 o3 l1 l2 F68 HZC HCM HF67
      go_wp2_with (go_at_call 25; refine (unhide HLEN).mono ?_; rintro e w9 ⟨rfl, hw9⟩; rw [hw9]; clear hw9 w9)
      go_loopw [15] (fun v15 wr => ∃ i m : Nat, i ≤ vn1 ∧ v15 = .int .i64 i ∧ Hid (wr = W8.drewN m)) (fun v _ => vn1 - (intOf v).toNat)
      case atStart => exact ⟨0, 0, Nat.zero_le _, rfl, hide rfl⟩
      case round =>
        obtain ⟨i, m, hi, rfl, HW⟩ := hrel
        by_cases hil : i < vn1
        · as_aux_lemma =>
          obtain ⟨b1, o1, u, e1, hc1, g1⟩ := (unhide HY8).2.1.at hil
          cases e1
          rw [List.getElem?_map] at g1
          obtain ⟨bi, hbi, rfl⟩ := Option.map_eq_some_iff.1 g1
          have HBI := hide hbi; have HLC := hide hc1
          have p1 : wr.cell? ⟨b1, o1 + i, none⟩ = some (.bool bi) := by rw [unhide HW]; exact hc1
          clear g1 hbi hc1
          cases bi with
          | false =>
            go_wp2_with fail
            go_roundw
            case rel => exact ⟨i + 1, m, by omega, by go_num, HW⟩
            case measure => simp [intOf]; omega
          | true =>
            obtain ⟨b2, o2, y, rfl, hc2, k1⟩ := (unhide HY8).2.2.at hil
            have HC2 := hide hc2; have HK1 := hide k1
            clear hc2 k1
            go_wp2_with fail
            go_loopw [16, 17] (fun v16 v17 wr => ∃ j r m : Nat, j ≤ vn1 ∧ v17 = .int .i64 j ∧ v16 = .int .i64 r ∧ r ≤ j ∧ Hid (r + cntL (fun z => decide (Pl.cmp z (rdf W3 y) < 0)) (lk.drop j) = cntL (fun z => decide (Pl.cmp z (rdf W3 y) < 0)) lk) ∧ Hid (wr = W8.drewN m)) (fun _ v _ => vn1 - (intOf v).toNat)
            case atStart => exact ⟨0, 0, _, Nat.zero_le _, rfl, rfl, Nat.le_refl _, hide (by rw [List.drop_zero, Nat.zero_add]), HW⟩
            case round =>
              obtain ⟨j, r, m, hj, rfl, rfl, hrj, HCT, HW⟩ := hrel
              by_cases hjl : j < vn1
              · obtain ⟨b3, o3, u3, e3, hc3, g3⟩ := (unhide HY8).2.1.at hjl
                cases e3
                rw [List.getElem?_map] at g3
                obtain ⟨bj, hbj, rfl⟩ := Option.map_eq_some_iff.1 g3
                obtain ⟨b4, o4, y2, e4, hc4, k4⟩ := (unhide HY8).2.2.at hjl
                cases e4
                have q1 : wr.cell? ⟨b1, o1 + j, none⟩ = some (.bool bj) := by rw [unhide HW]; exact hc3
                have q2 : wr.cell? ⟨b2, o2 + j, none⟩ = some (.slice y2.a y2.n y2.c) := by rw [unhide HW]; exact hc4
                have q3 : wr.cell? ⟨b2, o2 + i, none⟩ = some (.slice y.a y.n y.c) := by rw [unhide HW]; exact unhide HC2
                have FW : Fr (fun _ => False) W3 wr := by rw [unhide HW]; exact (unhide HF38).drewN _
                obtain ⟨c, hc⟩ : ∃ c, c = Pl.cmp (rdf W3 y2) (rdf W3 y) := ⟨_, rfl⟩
                have HA := hide (((((unhide HST).good y2 (List.mem_of_getElem? k4)).frame FW).cmp (((unhide HST).good y (List.mem_of_getElem? (unhide HK1))).frame FW)).drew)
                rw [← hc] at HA
                have hjk : j < lk.length := by rw [unhide HLL]; exact hjl
                have hst := cntL_step (fun z => decide (Pl.cmp z (rdf W3 y) < 0)) lk j hjk bj hbj
                have hlj : lk[j] = rdf W3 y2 := by have := (unhide HST).at k4; rw [List.getElem?_eq_getElem hjk] at this; exact Option.some.inj this
                simp only [hlj, ← hc] at hst
                have HSTP := hide hst
                clear hc3 g3 hbj hc4 k4 FW hc hst hlj
                cases bj with
                | false =>
                  go_wp2_with fail
                  go_quiet (fail)
                  go_wp2_with fail
                  go_roundw
                  case rel => exact ⟨j + 1, r, _, by omega, by go_num, rfl, by omega, hide (by have h1 := unhide HSTP; have h2 := unhide HCT; simp only [Bool.false_and, Bool.false_eq_true, if_false] at h1; omega), hide (by rw [unhide HW, World.drewN_drewN])⟩
                  case measure => simp [intOf]; omega
                | true =>
                  by_cases hcc : c < 0
                  · go_wp2_with fail
                    go_quiet ((go_at_call 16; with_reducible exact Calls.quiet_of (unhide HA _)))
                    go_wp2_with fail
                    go_roundw
                    case rel => exact ⟨j + 1, r + 1, _, by omega, by go_num, by go_num, by omega, hide (by have h1 := unhide HSTP; have h2 := unhide HCT; simp only [Bool.true_and, decide_eq_true (show c < 0 by omega), if_true] at h1; omega), hide (by rw [unhide HW, World.drewN_drewN])⟩
                    case measure => simp [intOf]; omega
                  · go_wp2_with fail
                    go_quiet ((go_at_call 16; with_reducible exact Calls.quiet_of (unhide HA _)))
                    go_wp2_with fail
                    go_roundw
                    case rel => exact ⟨j + 1, r, _, by omega, by go_num, rfl, by omega, hide (by have h1 := unhide HSTP; have h2 := unhide HCT; simp only [Bool.true_and, decide_eq_false (show ¬ c < 0 by omega), Bool.false_eq_true, if_false] at h1; omega), hide (by rw [unhide HW, World.drewN_drewN])⟩
                    case measure => simp [intOf]; omega
              · have hik : i < lk.length := by rw [unhide HLL]; exact hil
                have hli : lk[i] = rdf W3 y := by have := (unhide HST).at (unhide HK1); rw [List.getElem?_eq_getElem hik] at this; exact Option.some.inj this
                have hiv : i < pv.length := by rw [(unhide HPV).1]; exact hil
                obtain ⟨a, ha, hb, hc⟩ := (unhide HHL).at (by rw [unhide HLL, (unhide HPV).1]) i hik hiv (unhide HBI)
                rw [hli] at ha hb
                have hr : r = cntL (fun z => decide (Pl.cmp z (rdf W3 y) < 0)) lk := by
                  have h1 := unhide HCT
                  rw [List.drop_eq_nil_iff.2 (by rw [unhide HLL]; omega)] at h1
                  simpa [cntL] using h1
                rw [← hr] at ha
                have hrd : r < dd := by have := (List.getElem?_eq_some_iff.1 ha).1; rw [unhide HTD] at this; exact this
                obtain ⟨b5, o5, x5, rfl, hc5, k5⟩ := (unhide HGK).at hrd
                obtain ⟨b6, o6, u6, rfl, hc6, k6⟩ := (unhide HGV).at hrd
                obtain ⟨b7, o7, u7, e7, hc7, k7⟩ := (unhide HY8).1.at hil
                cases e7
                have hx5 : x5 = a.1 := by unfold kss at k5; rw [List.getElem?_map, ha] at k5; exact (Option.some.inj k5).symm
                have hu6 : u6 = .pointer a.2 := by unfold vvs at k6; rw [List.getElem?_map, ha] at k6; exact (Option.some.inj k6).symm
                have hu7 : u7 = .pointer a.2 := by rw [List.getElem?_map, List.getElem?_eq_getElem hiv] at k7; rw [hc]; exact (Option.some.inj k7).symm
                subst hx5 hu6 hu7
                have p5 : wr.cell? ⟨b5, o5 + r, none⟩ = some (.slice a.1.a a.1.n a.1.c) := by rw [unhide HW]; exact hc5
                have p6 : wr.cell? ⟨b6, o6 + r, none⟩ = some (.pointer a.2) := by rw [unhide HW]; exact hc6
                have p7 : wr.cell? ⟨b7, o7 + i, none⟩ = some (.pointer a.2) := by rw [unhide HW]; exact hc7
                have p8 : wr.cell? ⟨b2, o2 + i, none⟩ = some (.slice y.a y.n y.c) := by rw [unhide HW]; exact unhide HC2
                have FW : Fr (fun _ => False) W3 wr := by rw [unhide HW]; exact (unhide HF38).drewN _
                have hka : a.1 ∈ ks1 := (unhide HKEY) a (List.mem_of_getElem? ha)
                have HA := hide (((((unhide HST).good a.1 hka).frame FW).cmp (((unhide HST).good y (List.mem_of_getElem? (unhide HK1))).frame FW)).drew)
                rw [hb, Pl.cmp_self] at HA
                obtain ⟨s, hs⟩ : ∃ s, s = a.1 := ⟨_, rfl⟩
                obtain ⟨x, hx⟩ : ∃ x, x = a.2 := ⟨_, rfl⟩
                rw [← hs] at p5 HA
                rw [← hx] at p6 p7
                have hneq := neq_same x
                clear hik hli hiv ha hb hc hr hc5 k5 hc6 k6 hc7 k7 FW hka hs hx
                go_wp2_with fail
                go_quiet ((go_at_call 16; with_reducible exact Calls.quiet_of (unhide HA _)))
                go_wp2_with fail
                go_roundw
                case rel => exact ⟨i + 1, _, by omega, by go_num, hide (by rw [unhide HW, World.drewN_drewN])⟩
                case measure => simp [intOf]; omega
        · as_aux_lemma =>
          go_wp2_with fail
          go_ret
          exact ⟨rfl, (unhide HST).fr.trans (show Fr (fun _ => False) W3 wr from by rw [unhide HW]; exact (unhide HF38).drewN _) (fun _ _ e => e)⟩
end Go.Proofs.Qxb6615626a.BV
