/-
  zzRangeSet.
-/
import Derived.Test.Qxb6615626aEach
import Derived.Test.Qxb6615626aRok
import Derived.Test.Qxb6615626aRank
import Derived.Deep.RegionWith
namespace Go.Proofs.Qxb6615626a.BA
open Go.RowKit
set_option linter.unusedVariables false

theorem Lst.fr {F : Nat → Prop} {w w' : World} {s : Sl} {ss : List Sl} (h : Lst w s ss) (hf : Fr F w w') (hF : ∀ k, ¬ F k) : Lst w' s ss :=
  ⟨h.1, h.2.1, fun a ha i hi => ⟨(h.2.2 a ha i hi).1, (hf.cell (p := ⟨a.block, a.off + i, none⟩) (World.block_lt_of_cell? w _ (h.2.2 a ha i hi).2) (hF _)).trans (h.2.2 a ha i hi).2⟩⟩

theorem ok_empty (f : Sl → List UInt8) (K : Sl → Prop) (B eb : Nat) (w : World) (hB : B ≤ eb) (hE : EdAt w eb none none Sl.nil Sl.nil 0) : Ok f K B w eb ⟨[], none, []⟩ := by
  have hn : ∀ L : Lf, ¬ L ∈ ([] : List Lf) := fun L h => nomatch h
  refine ⟨⟨fun L h => absurd h (hn L), Or.inl ⟨rfl, Nat.zero_le _, rfl⟩, List.Pairwise.nil, fun L h => absurd h (hn L), ?_, hE.lt, fun L h => absurd h (hn L), fun s h => (nomatch h), List.Pairwise.nil, fun j s L h => (nomatch h), fun j s L h => (nomatch h), List.Pairwise.nil⟩, fun L h => absurd h (hn L), none, Sl.nil, Sl.nil, 0, hE, Nat.zero_le _, Or.inl rfl⟩
  rintro k (rfl | ⟨L, h, _⟩ | ⟨I, h, _⟩)
  · exact hB
  · cases h
  · cases h

theorem length_insAll {X : Type} {f : Sl → List UInt8} : ∀ (kvs es : List (Sl × X)), (insAll f es kvs).length ≤ es.length + kvs.length
  | [], es => by simp [insAll]
  | e :: kvs, es => by
    have := length_insAll (f := f) kvs (ins f e.1 e.2 es)
    have h2 := (length_ins (f := f) e.1 e.2 es).2
    show (insAll f (ins f e.1 e.2 es) kvs).length ≤ _
    simp only [List.length_cons]
    omega

theorem insAll_snoc {X : Type} {f : Sl → List UInt8} (kvs es : List (Sl × X)) (e : Sl × X) : insAll f es (kvs ++ [e]) = ins f e.1 e.2 (insAll f es kvs) := by
  unfold insAll; rw [List.foldl_append]; rfl

/-- the order in which the ranges are put in -/
def ordOf (es ss : List Sl) (rev : Bool) : List (Sl × Sl) := if rev then (es.zip ss).reverse else es.zip ss

set_option maxHeartbeats 1000000 in
theorem zzNew_any (eb : Nat) (t lo hi : Sl) (op : Bool) (n : Int) (w : World) :
    Calls Try.prog 41 #[.pointer (some ⟨eb, 0, none⟩), .slice t.a t.n t.c, .bool op, .int .i64 n, .slice lo.a lo.n lo.c, .slice hi.a hi.n hi.c] w fun e w' => e = .returned (.pointer (some ⟨w.heap.size, 0, none⟩)) ∧ RsAt w' w.heap.size eb t op ∧ Fr (fun _ => False) w w' := by
  go_enter Try.func41, Try.ntmps41
  go_wp2_with fail
  go_ret
  exact ⟨rfl, ⟨_, _, _, heap_alloc_new w _⟩, (Fr.refl _ w).alloc _⟩

def RsPost (f : Sl → List UInt8) (K : Sl → Prop) (kvs : List (Sl × Sl)) (tail : Sl) (op : Bool) (w : World) (e : Ending) (w' : World) : Prop :=
  ∃ (rb eb : Nat) (T : Tr) (tl : Sl), e = .returned (.pointer (some ⟨rb, 0, none⟩)) ∧ Ok f K w.heap.size w' eb T ∧ T.es = insAll f [] kvs ∧ RsAt w' rb eb tl op ∧ (op = true → tl = tail) ∧ Fr (fun _ => False) w w' ∧ w.heap.size ≤ rb

/-- what the filling loop has done behind k rounds -/
structure Fill (f : Sl → List UInt8) (K : Sl → Prop) (w0 w : World) (eb : Nat) (ord : List (Sl × Sl)) (k : Nat) (T : Tr) : Prop where
  ok : Ok f K w0.heap.size w eb T
  es : T.es = insAll f [] (ord.take k)
  fr : Fr (fun _ => False) w0 w

theorem Fill.keep {f : Sl → List UInt8} {K : Sl → Prop} {w0 w w' : World} {eb : Nat} {ord : List (Sl × Sl)} {k : Nat} {T : Tr} (h : Fill f K w0 w eb ord k T) (hf : Fr (fun _ => False) w w') : Fill f K w0 w' eb ord k T :=
  ⟨h.ok.fr hf (fun _ _ e => e), h.es, h.fr.trans hf (fun _ _ e => e)⟩

theorem Fill.set {f : Sl → List UInt8} {K : Sl → Prop} {w0 w w' : World} {eb : Nat} {ord : List (Sl × Sl)} {k : Nat} {T : Tr} {key x : Sl} {e : Ending} (h : Fill f K w0 w eb ord k T) (hp : SetPost f K w0.heap.size eb T key x w e w') (hk : ord[k]? = some (key, x)) :
    (∃ v1 v2, e = .returned (.tuple #[v1, v2])) ∧ ∃ T', Fill f K w0 w' eb ord (k + 1) T' := by
  obtain ⟨h1, T', h2, h3, h4, h5⟩ := hp
  refine ⟨h1, T', h2, ?_, h.fr.trans h4 (fun i hi g => absurd (h.ok.core.low i g) (by omega))⟩
  obtain ⟨hl, he⟩ := List.getElem?_eq_some_iff.1 hk
  rw [h3, h.es, List.take_succ_eq_append_getElem hl, he, insAll_snoc]

set_option maxRecDepth 20000 in
set_option maxHeartbeats 4000000 in
theorem zzRangeSet_any (f : Sl → List UInt8) (K : Sl → Prop) (s e t : Sl) (ss es : List Sl) (op rev : Bool) (w : World) (h1 : Lst w s ss) (h2 : Lst w e es) (hn : s.n = e.n) (hn1 : e.n ≤ 1024) (hk : KOK f K w.heap.size w) (hm : ∀ s, K s → s.n ≤ maxLen) (hK : ∀ t ∈ es, K t) :
    Calls Try.prog 14 #[s.v, e.v, t.v, .bool op, .bool rev] w (RsPost f K (ordOf es ss rev) t op w) := by
  obtain ⟨sa, sn, sc⟩ := s
  obtain ⟨ea, n, ec⟩ := e
  simp only at hn hn1
  subst hn
  obtain ⟨ta, tn, tc⟩ := t
  change Calls Try.prog 14 #[.slice sa sn sc, .slice ea sn ec, .slice ta tn tc, .bool op, .bool rev] w (RsPost f K (ordOf es ss rev) ⟨ta, tn, tc⟩ op w)
  have hol : (ordOf es ss rev).length = sn := by
    have e1 := h1.1; have e2 := h2.1; simp at e1 e2
    unfold ordOf; split <;> simp <;> omega
  have H1 := hide h1; have H2 := hide h2; have HK := hide hk; have HM := hide hm; have HKE := hide hK; have HOL := hide hol
  clear h1 h2 hk hm hK hol
  go_enter Try.func14, Try.ntmps14
  go_wp2_with fail
  obtain ⟨W1, hW1⟩ : ∃ W, W = w.alloc (.cells #[.pointer none, .pointer none, .pointer none, .slice none 0 0, .slice none 0 0, .int .i64 0] 68) := ⟨_, rfl⟩
  rw [← hW1]
  obtain ⟨eb, heb⟩ : ∃ eb, eb = w.heap.size := ⟨_, rfl⟩
  have hE1 : EdAt W1 eb none none Sl.nil Sl.nil 0 := by rw [hW1, heb]; exact heap_alloc_new w _
  have HF1 := hide (show Fill f K w W1 eb (ordOf es ss rev) 0 ⟨[], none, []⟩ from ⟨ok_empty f K w.heap.size eb W1 (by omega) hE1, rfl, by rw [hW1]; exact (Fr.refl _ w).alloc _⟩)
  rw [← heb]
  have HEB := hide heb
  clear hW1 hE1 heb
  go_loopg [13] sn (fun gk v wr => ∃ (k : Nat) (T : Tr), gk + k = sn ∧ v = .int .i64 k ∧ Hid (Fill f K w wr eb (ordOf es ss rev) k T))
  case atStart => exact ⟨0, _, rfl, rfl, HF1⟩
  case round =>
    obtain ⟨k, T, hgk, rfl, HF⟩ := hrel
    have hks : k ≤ sn := by omega
    by_cases hlt : k < sn
    · obtain ⟨i, hi, hio, hrev⟩ : ∃ i : Nat, i < sn ∧ Hid (∀ (h1 : i < es.length) (h2 : i < ss.length), (ordOf es ss rev)[k]? = some (es[i], ss[i])) ∧ ((rev = false ∧ i = k) ∨ (rev = true ∧ (sn : Int) - 1 - (k : Int) = (i : Int))) := by
        have e1 : ss.length = sn := (unhide H1).1
        have e2 : es.length = sn := (unhide H2).1
        cases rev with
        | false =>
          refine ⟨k, hlt, hide (fun h1 h2 => ?_), .inl ⟨rfl, rfl⟩⟩
          unfold ordOf
          simp only [Bool.false_eq_true, if_false]
          exact List.getElem?_zip_eq_some (z := (_, _)).2 ⟨List.getElem?_eq_getElem h1, List.getElem?_eq_getElem h2⟩
        | true =>
          refine ⟨sn - 1 - k, by omega, hide (fun h1 h2 => ?_), .inr ⟨rfl, by omega⟩⟩
          unfold ordOf
          simp only [if_true]
          have hz : (es.zip ss).length = sn := by simp; omega
          rw [List.getElem?_reverse (by omega), hz]
          exact List.getElem?_zip_eq_some (z := (_, _)).2 ⟨List.getElem?_eq_getElem h1, List.getElem?_eq_getElem h2⟩
      obtain ⟨b1, o1, x, rfl, hc1, g1⟩ := (unhide H1).at hi
      obtain ⟨b2, o2, y, rfl, hc2, k1⟩ := (unhide H2).at hi
      have hcx : wr.cell? ⟨b1, o1 + i, none⟩ = some (.slice x.a x.n x.c) := ((unhide HF).fr.cell (p := ⟨b1, o1 + i, none⟩) (World.block_lt_of_cell? w _ hc1) (fun e => e)).trans hc1
      have hcy : wr.cell? ⟨b2, o2 + i, none⟩ = some (.slice y.a y.n y.c) := ((unhide HF).fr.cell (p := ⟨b2, o2 + i, none⟩) (World.block_lt_of_cell? w _ hc2) (fun e => e)).trans hc2
      have hord : Hid ((ordOf es ss rev)[k]? = some (y, x)) := hide (by
        obtain ⟨p1, q1⟩ := List.getElem?_eq_some_iff.1 g1
        obtain ⟨p2, q2⟩ := List.getElem?_eq_some_iff.1 k1
        rw [(unhide hio) p2 p1, q1, q2])
      have hKy := unhide HKE y (List.mem_of_getElem? k1)
      have HFD := hide ((unhide HF).keep (w' := wr.drew) ((Fr.refl _ wr).drew))
      have HSET := hide (set_any f K w.heap.size eb y x wr.drew T (unhide HFD).ok ((unhide HK).fr (unhide HFD).fr (fun _ _ e => e)) (unhide HM) hKy (by rw [(unhide HF).es]; have := length_insAll (f := f) ((ordOf es ss rev).take k) []; simp at this; omega))
      clear hc1 hc2 g1 k1 hKy hio
      rcases hrev with ⟨rfl, rfl⟩ | ⟨rfl, hrev⟩
      · go_wp2_with fail
        go_region_with (go_at_call 40; refine (unhide HSET).mono ?_; rintro e W3 hp; obtain ⟨⟨v1, v2, rfl⟩, T', hF'⟩ := (unhide HFD).set hp (unhide hord); have HF3 := hide hF'; clear hp hF')
        all_goals
          go_wp2_with fail
          go_roundg (gk - 1)
          case measure => omega
          case rel => exact ⟨i + 1, T', by omega, by go_num, HF3⟩
      · go_wp2_with fail
        go_region_with (go_at_call 40; refine (unhide HSET).mono ?_; rintro e W3 hp; obtain ⟨⟨v1, v2, rfl⟩, T', hF'⟩ := (unhide HFD).set hp (unhide hord); have HF3 := hide hF'; clear hp hF')
        all_goals
          go_wp2_with fail
          go_roundg (gk - 1)
          case measure => omega
          case rel => exact ⟨k + 1, T', by omega, by go_num, HF3⟩
    · have hks2 : k = sn := by omega
      have HKS := hide hks2
      clear hks2 hks hgk
      obtain ⟨wq, hwq⟩ : ∃ W, W = wr := ⟨_, rfl⟩
      rw [← hwq] at HF
      have HL1 := hide (Lst.fr (unhide H1) (unhide HF).fr (fun _ e => e))
      have HL2 := hide (Lst.fr (unhide H2) (unhide HF).fr (fun _ e => e))
      have HBY := hide (show ∀ t ∈ es, Byt wq t (f t) from fun t ht => (unhide HK t (unhide HKE t ht)).1.fr (unhide HF).fr (fun _ e => e))
      have HBN := hide (show ∀ t ∈ es, t.n ≤ maxLen from fun t ht => unhide HM t (unhide HKE t ht))
      go_wp2_with fail
      rw [← hwq]
      clear hwq
      go_loopw [15, 16, 17] (fun v15 v16 v17 wr2 => ∃ (j m : Nat) (le mo : Int), j ≤ sn ∧ v17 = .int .i64 j ∧ v15 = .int .i64 le ∧ v16 = .int .i64 mo ∧ ((j = 0 ∧ le = -1 ∧ mo = -1) ∨ (∃ l q : Nat, le = l ∧ mo = q ∧ l < j ∧ q < j)) ∧ Hid (wr2 = wq.drewN m)) (fun _ _ v _ => sn - (intOf v).toNat)
      case atStart => exact ⟨0, 0, -1, -1, Nat.zero_le _, rfl, rfl, rfl, .inl ⟨rfl, rfl, rfl⟩, hide rfl⟩
      case round =>
        obtain ⟨j, m, le, mo, hj, rfl, rfl, rfl, hlm, HWR⟩ := hrel
        by_cases hjl : j < sn
        · obtain ⟨b2, o2, y, rfl, hc2, k1⟩ := (unhide HL2).at hjl
          have hcy : wr.cell? ⟨b2, o2 + j, none⟩ = some (.slice y.a y.n y.c) := by rw [unhide HWR]; exact hc2
          have hye := List.mem_of_getElem? k1
          rcases hlm with ⟨rfl, rfl, rfl⟩ | ⟨l, q, rfl, rfl, hl, hq⟩
          · clear hc2 k1 hye
            go_wp2_with fail
            go_quiet (fail)
            go_wp2_with fail
            go_quiet (fail)
            go_wp2_with fail
            go_roundw
            case rel => exact ⟨1, _, 0, 0, by omega, rfl, rfl, rfl, .inr ⟨0, 0, rfl, rfl, by omega, by omega⟩, hide (by rw [unhide HWR, World.drewN_drewN])⟩
            case measure => simp [intOf]; omega
          · obtain ⟨b3, o3, yl, e3, hc3, k3⟩ := (unhide HL2).at (show l < sn by omega)
            cases e3
            obtain ⟨b4, o4, yq, e4, hc4, k4⟩ := (unhide HL2).at (show q < sn by omega)
            cases e4
            have hcl : wr.cell? ⟨b2, o2 + l, none⟩ = some (.slice yl.a yl.n yl.c) := by rw [unhide HWR]; exact hc3
            have hcq : wr.cell? ⟨b2, o2 + q, none⟩ = some (.slice yq.a yq.n yq.c) := by rw [unhide HWR]; exact hc4
            have hyl := List.mem_of_getElem? k3; have hyq := List.mem_of_getElem? k4
            obtain ⟨c1, hC1⟩ : ∃ c, c = Pl.cmp (f y) (f yl) := ⟨_, rfl⟩
            obtain ⟨c2, hC2⟩ : ∃ c, c = Pl.cmp (f y) (f yq) := ⟨_, rfl⟩
            have HA : CmpIs wr y yl c1 := by rw [unhide HWR, hC1]; exact cmpIs wq y yl _ _ (unhide HBY y hye) (unhide HBY yl hyl) (unhide HBN y hye) (unhide HBN yl hyl)
            have HB : CmpIs wr y yq c2 := by rw [unhide HWR, hC2]; exact cmpIs wq y yq _ _ (unhide HBY y hye) (unhide HBY yq hyq) (unhide HBN y hye) (unhide HBN yq hyq)
            have HA' := hide HA.drew
            have HB' := hide HB.drew
            clear hc2 hc3 hc4 k1 k3 k4 hye hyl hyq hC1 hC2 HA HB
            have hl0 : decide ((l : Int) < 0) = false := by rw [decide_eq_false_iff_not]; omega
            have hq0 : decide ((q : Int) < 0) = false := by rw [decide_eq_false_iff_not]; omega
            have hl1 : ¬ (l : Int) < 0 := by omega
            have hq1 : ¬ (q : Int) < 0 := by omega
            by_cases d1 : c1 < 0
            · by_cases d2 : 0 < c2
              · skip
                go_wp2_with fail
                go_quiet ((go_at_call 16; with_reducible exact Calls.quiet_of (unhide HA' _)))
                go_wp2_with fail
                go_quiet ((go_at_call 16; with_reducible exact quiet_two (unhide HB' _)))
                go_wp2_with fail
                go_roundw
                case rel => exact ⟨j + 1, _, (j : Nat), (j : Nat), by omega, by go_num, rfl, rfl, .inr ⟨j, j, rfl, rfl, by omega, by omega⟩, hide (by rw [unhide HWR, World.drewN_drewN])⟩
                case measure => simp [intOf]; omega
              · skip
                go_wp2_with fail
                go_quiet ((go_at_call 16; with_reducible exact Calls.quiet_of (unhide HA' _)))
                go_wp2_with fail
                go_quiet ((go_at_call 16; with_reducible exact quiet_two (unhide HB' _)))
                go_wp2_with fail
                go_roundw
                case rel => exact ⟨j + 1, _, (j : Nat), (q : Nat), by omega, by go_num, rfl, rfl, .inr ⟨j, q, rfl, rfl, by omega, by omega⟩, hide (by rw [unhide HWR, World.drewN_drewN])⟩
                case measure => simp [intOf]; omega
            · by_cases d2 : 0 < c2
              · skip
                go_wp2_with fail
                go_quiet ((go_at_call 16; with_reducible exact Calls.quiet_of (unhide HA' _)))
                go_wp2_with fail
                go_quiet ((go_at_call 16; with_reducible exact quiet_two (unhide HB' _)))
                go_wp2_with fail
                go_roundw
                case rel => exact ⟨j + 1, _, (l : Nat), (j : Nat), by omega, by go_num, rfl, rfl, .inr ⟨l, j, rfl, rfl, by omega, by omega⟩, hide (by rw [unhide HWR, World.drewN_drewN])⟩
                case measure => simp [intOf]; omega
              · skip
                go_wp2_with fail
                go_quiet ((go_at_call 16; with_reducible exact Calls.quiet_of (unhide HA' _)))
                go_wp2_with fail
                go_quiet ((go_at_call 16; with_reducible exact quiet_two (unhide HB' _)))
                go_wp2_with fail
                go_roundw
                case rel => exact ⟨j + 1, _, (l : Nat), (q : Nat), by omega, by go_num, rfl, rfl, .inr ⟨l, q, rfl, rfl, by omega, by omega⟩, hide (by rw [unhide HWR, World.drewN_drewN])⟩
                case measure => simp [intOf]; omega
        · have hjs : j = sn := by omega
          subst hjs
          rcases hlm with ⟨rfl, rfl, rfl⟩ | ⟨l, q, rfl, rfl, hl, hq⟩
          · cases op with
            | true =>
              go_wp2_with fail
              refine (zzNew_any eb ⟨ta, tn, tc⟩ ⟨ta, tn, tc⟩ Sl.nil true _ _).mono ?_
              rintro e W9 ⟨rfl, hrs, hfr⟩
              have HRS9 := hide hrs; have HFR9 := hide hfr
              clear hrs hfr
              go_wp2_with fail
              go_ret
              have HFL := (unhide HF).keep (w' := W9) ((show Fr (fun _ => False) wq wr from by rw [unhide HWR]; exact (Fr.refl _ wq).drewN _).trans (unhide HFR9) (fun _ _ e => e))
              exact ⟨_, eb, T, ⟨ta, tn, tc⟩, rfl, HFL.ok, by rw [HFL.es, unhide HKS, List.take_of_length_le (by rw [unhide HOL]; exact Nat.le_refl _)], unhide HRS9, (fun _ => rfl), HFL.fr, Nat.le_trans (unhide HF).fr.size (by rw [unhide HWR]; exact Nat.le_refl _)⟩
            | false =>
              go_wp2_with fail
              refine (zzNew_any eb Sl.nil Sl.nil Sl.nil false _ _).mono ?_
              rintro e W9 ⟨rfl, hrs, hfr⟩
              have HRS9 := hide hrs; have HFR9 := hide hfr
              clear hrs hfr
              go_wp2_with fail
              go_ret
              have HFL := (unhide HF).keep (w' := W9) ((show Fr (fun _ => False) wq wr from by rw [unhide HWR]; exact (Fr.refl _ wq).drewN _).trans (unhide HFR9) (fun _ _ e => e))
              exact ⟨_, eb, T, Sl.nil, rfl, HFL.ok, by rw [HFL.es, unhide HKS, List.take_of_length_le (by rw [unhide HOL]; exact Nat.le_refl _)], unhide HRS9, (fun h => by cases h), HFL.fr, Nat.le_trans (unhide HF).fr.size (by rw [unhide HWR]; exact Nat.le_refl _)⟩
          · obtain ⟨b1, o1, xl, rfl, hc1, g1⟩ := (unhide HL1).at hl
            obtain ⟨b2, o2, yq, rfl, hc2, k1⟩ := (unhide HL2).at hq
            have hcx : wr.cell? ⟨b1, o1 + l, none⟩ = some (.slice xl.a xl.n xl.c) := by rw [unhide HWR]; exact hc1
            have hcy : wr.cell? ⟨b2, o2 + q, none⟩ = some (.slice yq.a yq.n yq.c) := by rw [unhide HWR]; exact hc2
            clear hc1 hc2 g1 k1
            cases op with
            | true =>
              go_wp2_with fail
              refine (zzNew_any eb ⟨ta, tn, tc⟩ xl Sl.nil true _ _).mono ?_
              rintro e W9 ⟨rfl, hrs, hfr⟩
              have HRS9 := hide hrs; have HFR9 := hide hfr
              clear hrs hfr
              go_wp2_with fail
              go_ret
              have HFL := (unhide HF).keep (w' := W9) ((show Fr (fun _ => False) wq wr from by rw [unhide HWR]; exact (Fr.refl _ wq).drewN _).trans (unhide HFR9) (fun _ _ e => e))
              exact ⟨_, eb, T, ⟨ta, tn, tc⟩, rfl, HFL.ok, by rw [HFL.es, unhide HKS, List.take_of_length_le (by rw [unhide HOL]; exact Nat.le_refl _)], unhide HRS9, (fun _ => rfl), HFL.fr, Nat.le_trans (unhide HF).fr.size (by rw [unhide HWR]; exact Nat.le_refl _)⟩
            | false =>
              go_wp2_with fail
              refine (zzNew_any eb Sl.nil xl yq false _ _).mono ?_
              rintro e W9 ⟨rfl, hrs, hfr⟩
              have HRS9 := hide hrs; have HFR9 := hide hfr
              clear hrs hfr
              go_wp2_with fail
              go_ret
              have HFL := (unhide HF).keep (w' := W9) ((show Fr (fun _ => False) wq wr from by rw [unhide HWR]; exact (Fr.refl _ wq).drewN _).trans (unhide HFR9) (fun _ _ e => e))
              exact ⟨_, eb, T, Sl.nil, rfl, HFL.ok, by rw [HFL.es, unhide HKS, List.take_of_length_le (by rw [unhide HOL]; exact Nat.le_refl _)], unhide HRS9, (fun h => by cases h), HFL.fr, Nat.le_trans (unhide HF).fr.size (by rw [unhide HWR]; exact Nat.le_refl _)⟩
end Go.Proofs.Qxb6615626a.BA
