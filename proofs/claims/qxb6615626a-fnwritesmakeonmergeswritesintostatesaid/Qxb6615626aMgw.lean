/-
  zzMerged: the walk.
-/
import Derived.Test.Qxb6615626aMga
namespace Go.Proofs.Qxb6615626a.BV
open Go.RowKit
set_option linter.unusedVariables false

def MgPost (f : Sl → List UInt8) (K : Sl → Prop) (E : List (List UInt8 × Option Addr)) (w : World) (e : Ending) (w' : World) : Prop :=
  ∃ (g1 g2 : Nat) (oks : List Sl) (ovs : List (Option Addr)), e = .returned (.tuple #[.slice (some ⟨g1, 0, none⟩) E.length E.length, .slice (some ⟨g2, 0, none⟩) E.length E.length]) ∧
    Lst w' ⟨some ⟨g1, 0, none⟩, E.length, E.length⟩ oks ∧ VL w' ⟨some ⟨g2, 0, none⟩, E.length, E.length⟩ (ovs.map Value.pointer) ∧ (∀ (r : Nat) (k : List UInt8) (x : Option Addr), E[r]? = some (k, x) → ∃ o, oks[r]? = some o ∧ f o = k ∧ K o ∧ ovs[r]? = some x) ∧ Fr (fun _ => False) w w'

structure MIn (w1 w : World) (bk bv k v : Sl) (bks ks : List Sl) (pb pv : List (Option Addr)) (lbk lk : List (List UInt8)) : Prop where
  hb : LstB w bk bks lbk
  hk : LstB w k ks lk
  vb : VL w bv (pb.map Value.pointer)
  vk : VL w v (pv.map Value.pointer)
  good : ∀ x, (x ∈ bks ∨ x ∈ ks) → Good w1 w x

/-- what stands while the out rows are being filled -/
structure M3 (f : Sl → List UInt8) (K : Sl → Prop) (W wr : World) (n : Nat) (E c : List (List UInt8 × Option Addr)) (i : Nat) (oks : List Sl) (ovs : List (Option Addr)) : Prop where
  rk : Row wr W.heap.size 23 1 n n (oks.map fun s => .slice s.a s.n s.c)
  rv : Row wr (W.heap.size + 1) 48 1 n n (ovs.map Value.pointer)
  fr : Fr (fun _ => False) W wr
  laid : Laid f K E c i oks ovs

theorem M3.keep {f : Sl → List UInt8} {K : Sl → Prop} {W wr w' : World} {n : Nat} {E c : List (List UInt8 × Option Addr)} {i : Nat} {oks : List Sl} {ovs : List (Option Addr)} (h : M3 f K W wr n E c i oks ovs) (hf : Fr (fun _ => False) wr w') : M3 f K W w' n E c i oks ovs :=
  ⟨h.rk.fr hf (fun e => e), h.rv.fr hf (fun e => e), h.fr.trans hf (fun _ _ e => e), h.laid⟩

theorem lst_row {w : World} {g n cap c : Nat} {ss : List Sl} (h : Row w g 23 1 n cap (ss.map fun s => .slice s.a s.n s.c)) : Lst w ⟨some ⟨g, 0, none⟩, n, c⟩ ss := by
  have hv := VL.row (c := c) h
  refine ⟨by have := hv.1; simpa using this, fun e => (nomatch e), fun a ha i hi => ?_⟩
  have := hv.2.2 a ha i (by simpa using hi)
  refine ⟨this.1, ?_⟩
  rw [this.2, List.getElem_map]

theorem zip_at {ks : List Sl} {pv : List (Option Addr)} {i : Nat} {t : Sl} {x : Option Addr} (h1 : ks[i]? = some t) (h2 : pv[i]? = some x) : (ks.zip pv)[i]? = some (t, x) := by
  rw [List.getElem?_zip_eq_some]; exact ⟨h1, h2⟩

set_option maxRecDepth 20000 in
set_option maxHeartbeats 8000000 in
theorem zzMerged_any (w1 w : World) (bk bv k v : Sl) (bks ks : List Sl) (pb pv : List (Option Addr)) (lbk lk : List (List UInt8)) (E : List (List UInt8 × Option Addr)) (hin0 : MIn w1 w bk bv k v bks ks pb pv lbk lk) (hbn : bk.n ≤ 1024) (hkn : k.n ≤ 1024) (hbv : bv.n = bk.n) (hvn : v.n = k.n) (hE : E.Pairwise fun a b => Pl.lt a.1 b.1)
    (hp : (gk (rdf w1) (selT pW (ks.zip pv) (lastB lk) k.n ++ selT (pB (rdf w1) lk) (bks.zip pb) (lastB lbk) bk.n)).Perm E) :
    Calls Try.prog 33 #[bk.v, bv.v, k.v, v.v] w (MgPost (rdf w1) (fun s => s ∈ bks ∨ s ∈ ks) E w) := by
  obtain ⟨i0, hin, hz0, hz1, hz2⟩ := info_parts info23
  obtain ⟨j0, jin, jz0, jz1, jz2⟩ := info_parts info48
  have HI0 := hide (⟨hin, hz0, hz1, hz2⟩ : Try.prog.info? 23 = some i0 ∧ _ ∧ _ ∧ _)
  have HJ0 := hide (⟨jin, jz0, jz1, jz2⟩ : Try.prog.info? 48 = some j0 ∧ _ ∧ _ ∧ _)
  clear hin hz0 hz1 hz2 jin jz0 jz1 jz2
  obtain ⟨bka, bkn, bkc⟩ := bk
  obtain ⟨bva, bvn, bvc⟩ := bv
  obtain ⟨ka, kn, kc⟩ := k
  obtain ⟨va, vn, vc⟩ := v
  simp only at hbn hkn hbv hvn hp
  subst hbv
  subst hvn
  have HIN := hide hin0; have HE := hide hE; have HP := hide hp
  clear hin0 hE hp
  simp only [Sl.v]
  have HLB := hide (zzLast2_any ⟨ka, vn, kc⟩ ks lk w (unhide HIN).hk (by show vn ≤ _; omega))
  go_enter Try.func33, Try.ntmps33
  go_wp2_with fail
  refine (unhide HLB).mono ?_
  rintro r W1 ⟨rfl, y1, y2, y3⟩
  obtain ⟨lab, hlab⟩ : ∃ n, w.heap.size = n := ⟨_, rfl⟩
  have HY := hide (show ML w W1 Sl.nil Sl.nil [] [] lab vn (lastB lk) from by rw [hlab] at y1 y3; exact ⟨AS.nil _ _ _, AS.nil _ _ _, .inl rfl, y2, y1, y3, fun e => (nomatch e), fun e => (nomatch e)⟩)
  rw [hlab]
  clear y1 y2 y3 hlab HLB
  go_wp2_with fail
  go_loopw [10, 11, 13] (fun v10 v11 v13 wr => ∃ (i : Nat) (s1 s2 : Sl), i ≤ vn ∧ v13 = .int .i64 i ∧ v10 = .slice s1.a s1.n s1.c ∧ v11 = .slice s2.a s2.n s2.c ∧ Hid (ML w wr s1 s2 (selT pW (ks.zip pv) (lastB lk) i) (selT pW (ks.zip pv) (lastB lk) i) lab vn (lastB lk))) (fun _ _ v _ => vn - (intOf v).toNat)
  case atStart => exact ⟨0, Sl.nil, Sl.nil, Nat.zero_le _, rfl, rfl, rfl, hide (by rw [selT_zero]; exact unhide HY)⟩
  case round =>
    obtain ⟨i, s1, s2, hi, rfl, rfl, rfl, HM⟩ := hrel
    clear HY
    by_cases hil : i < vn
    · as_aux_lemma =>
      obtain ⟨b1, o1, u, q1, hc1, g1⟩ := (unhide HM).ll.at hil
      cases q1
      rw [Nat.zero_add] at hc1
      rw [List.getElem?_map] at g1
      obtain ⟨bi, hbi, rfl⟩ := Option.map_eq_some_iff.1 g1
      obtain ⟨b2, o2, u2, rfl, hc2, g2⟩ := (unhide HIN).vk.at hil
      rw [List.getElem?_map] at g2
      obtain ⟨x, hx, rfl⟩ := Option.map_eq_some_iff.1 g2
      obtain ⟨b3, o3, t, rfl, hc3, g3⟩ := (unhide HIN).hk.lst.at hil
      have HST := hide (selT_succ pW (ks.zip pv) (lastB lk) i (t, x) bi (zip_at g3 hx) hbi)
      have p2 : wr.cell? ⟨b2, o2 + i, none⟩ = some (.pointer x) := ((unhide HM).fr.cell (p := ⟨b2, o2 + i, none⟩) (World.block_lt_of_cell? w _ hc2) (fun e => e)).trans hc2
      have p3 : wr.cell? ⟨b3, o3 + i, none⟩ = some (.slice t.a t.n t.c) := ((unhide HM).fr.cell (p := ⟨b3, o3 + i, none⟩) (World.block_lt_of_cell? w _ hc3) (fun e => e)).trans hc3
      have HC2 := hide hc2; have HLN := hide (length_selT pW (ks.zip pv) (lastB lk) i)
      obtain ⟨c, hc⟩ : ∃ c, c = selT pW (ks.zip pv) (lastB lk) i := ⟨_, rfl⟩
      rw [← hc] at HM HST HLN
      clear g1 hbi g2 hx hc2 hc3 g3 hc
      cases bi with
      | false =>
        go_wp2_with fail
        go_roundw
        case rel => exact ⟨i + 1, s1, s2, by omega, by go_num, rfl, rfl, hide (by rw [unhide HST]; simpa using unhide HM)⟩
        case measure => simp [intOf]; omega
      | true =>
        cases x with
        | none =>
          have hneq := neq_same none
          go_wp2_with fail
          go_roundw
          case rel => exact ⟨i + 1, s1, s2, by omega, by go_num, rfl, rfl, hide (by rw [unhide HST]; simpa [pW] using unhide HM)⟩
          case measure => simp [intOf]; omega
        | some ad =>
          go_wp2_with (at_builtin; first
            | (refine wpList_append_as rfl _ _ 22 rfl 23 i0 (.slice none 0 0) 24 Try.underlying22 (unhide HI0).1 (unhide HI0).2.1 (unhide HI0).2.2.1 (unhide HI0).2.2.2 rfl (by decide) w.heap.size s1 _ rfl ((unhide HM).keep (fr_alloc1 wr _)).a1 ((unhide HM).keep (fr_alloc1 wr _)).fr.size _ _ (.slice t.a t.n t.c) rfl (one_newAt _ _ _ _ (by simp)) rfl (by have := unhide HLN; simp only [List.length_map]; omega) ?_
               intro s1' W2 r1 r2 r3
               have HM1 := hide ((unhide HM).app1 (fr_alloc1 wr _) (t, some ad) r1 r2 r3)
               have p4 : W2.cell? ⟨b2, o2 + i, none⟩ = some (.pointer (some ad)) := ((unhide HM1).fr.cell (p := ⟨b2, o2 + i, none⟩) (World.block_lt_of_cell? w _ (unhide HC2)) (fun e => e)).trans (unhide HC2)
               clear r1 r2 r3)
            | (refine wpList_append_as rfl _ _ 38 rfl 48 j0 (.pointer none) 8 Try.underlying38 (unhide HJ0).1 (unhide HJ0).2.1 (unhide HJ0).2.2.1 (unhide HJ0).2.2.2 rfl (by decide) w.heap.size s2 _ rfl ((unhide HM1).keep (fr_alloc1 W2 _)).a2 ((unhide HM1).keep (fr_alloc1 W2 _)).fr.size _ _ (.pointer (some ad)) rfl (one_newAt _ _ _ _ (by simp)) rfl (by have := unhide HLN; simp only [List.length_map]; omega) ?_
               intro s2' W3 r1 r2 r3
               have HM2 := hide ((unhide HM1).app2 (by simp) (fr_alloc1 W2 _) (t, some ad) r1 r2 r3)
               clear r1 r2 r3))
          go_roundw
          case rel => exact ⟨i + 1, s1', s2', by omega, by go_num, rfl, rfl, hide (by rw [unhide HST]; simpa [pW] using unhide HM2)⟩
          case measure => simp [intOf]; omega
    · as_aux_lemma =>
      have hiv : i = vn := by omega
      subst hiv
      have HLB := hide (zzLast2_any ⟨bka, bvn, bkc⟩ bks lbk wr ((unhide HIN).hb.frame (unhide HM).fr) (by show bvn ≤ _; omega))
      obtain ⟨c0, hc0⟩ : ∃ c, c = selT pW (ks.zip pv) (lastB lk) i := ⟨_, rfl⟩
      have HL0 : Hid (c0.length ≤ i) := hide (by rw [hc0]; exact length_selT _ _ _ _)
      have HK0 : Hid (∀ e ∈ c0, e.1 ∈ ks) := hide (by rw [hc0]; rintro ⟨e1, e2⟩ he; exact (List.of_mem_zip (mem_selT he)).1)
      rw [← hc0] at HM HP
      clear hc0
      go_wp2_with fail
      refine (unhide HLB).mono ?_
      rintro r W2 ⟨rfl, y1, y2, y3⟩
      obtain ⟨lab2, hlab⟩ : ∃ n, wr.heap.size = n := ⟨_, rfl⟩
      have HY : Hid (ML w W2 s1 s2 c0 c0 lab2 bvn (lastB lbk)) := hide (by
        have k := (unhide HM).keep y2
        have m := unhide HM
        rw [hlab] at y1 y3
        refine ⟨k.a1, k.a2, k.ne, k.fr, y1, y3, fun e => ?_, fun e => ?_⟩
        · have := (m.a1.lt e).2; omega
        · have := (m.a2.lt e).2; omega)
      rw [hlab]
      clear y1 y2 y3 hlab HLB HM
      go_wp2_with fail
      go_loopw [10, 11, 15] (fun v10 v11 v15 wr => ∃ (i : Nat) (s1 s2 : Sl), i ≤ bvn ∧ v15 = .int .i64 i ∧ v10 = .slice s1.a s1.n s1.c ∧ v11 = .slice s2.a s2.n s2.c ∧ Hid (ML w wr s1 s2 (c0 ++ selT (pB (rdf w1) lk) (bks.zip pb) (lastB lbk) i) (c0 ++ selT (pB (rdf w1) lk) (bks.zip pb) (lastB lbk) i) lab2 bvn (lastB lbk))) (fun _ _ v _ => bvn - (intOf v).toNat)
      case atStart => exact ⟨0, s1, s2, Nat.zero_le _, rfl, rfl, rfl, hide (by rw [selT_zero, List.append_nil]; exact unhide HY)⟩
      case round =>
        clear HY
        obtain ⟨j, s1, s2, hj, rfl, rfl, rfl, HM⟩ := hrel
        by_cases hjl : j < bvn
        · as_aux_lemma =>
          obtain ⟨b1, o1, u, q1, hc1, g1⟩ := (unhide HM).ll.at hjl
          cases q1
          rw [Nat.zero_add] at hc1
          rw [List.getElem?_map] at g1
          obtain ⟨bi, hbi, rfl⟩ := Option.map_eq_some_iff.1 g1
          obtain ⟨b2, o2, u2, rfl, hc2, g2⟩ := (unhide HIN).vb.at hjl
          rw [List.getElem?_map] at g2
          obtain ⟨x, hx, rfl⟩ := Option.map_eq_some_iff.1 g2
          obtain ⟨b3, o3, t, rfl, hc3, g3⟩ := (unhide HIN).hb.lst.at hjl
          have HST := hide (selT_succ (pB (rdf w1) lk) (bks.zip pb) (lastB lbk) j (t, x) bi (zip_at g3 hx) hbi)
          have p2 : wr.cell? ⟨b2, o2 + j, none⟩ = some (.pointer x) := ((unhide HM).fr.cell (p := ⟨b2, o2 + j, none⟩) (World.block_lt_of_cell? w _ hc2) (fun e => e)).trans hc2
          have p3 : wr.cell? ⟨b3, o3 + j, none⟩ = some (.slice t.a t.n t.c) := ((unhide HM).fr.cell (p := ⟨b3, o3 + j, none⟩) (World.block_lt_of_cell? w _ hc3) (fun e => e)).trans hc3
          have HC2 := hide hc2; have HLN := hide (length_selT (pB (rdf w1) lk) (bks.zip pb) (lastB lbk) j)
          have HGT := hide (((unhide HIN).good t (.inl (List.mem_of_getElem? g3))).frame (unhide HM).fr)
          obtain ⟨c, hc⟩ : ∃ c, c = selT (pB (rdf w1) lk) (bks.zip pb) (lastB lbk) j := ⟨_, rfl⟩
          rw [← hc] at HM HST HLN
          clear g1 hbi g2 hx hc2 hc3 g3 hc
          cases bi with
          | false =>
            go_wp2_with fail
            go_roundw
            case rel => exact ⟨j + 1, s1, s2, by omega, by go_num, rfl, rfl, hide (by rw [unhide HST]; simpa using unhide HM)⟩
            case measure => simp [intOf]; omega
          | true =>
            have HZI := hide (zzIn_any t ⟨ka, i, kc⟩ (rdf w1 t) ks lk wr (unhide HGT).1.weak (unhide HGT).2 ((unhide HIN).hk.weak.frame (unhide HM).fr) (by show i ≤ _; omega))
            obtain ⟨b, hb⟩ : ∃ b, b = lk.any (· == rdf w1 t) := ⟨_, rfl⟩
            have HBB : Hid (pB (rdf w1) lk (t, x) = !b) := hide (by unfold pB; rw [hb])
            unfold InPost at HZI
            rw [← hb] at HZI
            clear hb HGT
            cases b with
            | true =>
              go_wp2_with (go_at_call 54; refine (unhide HZI).mono ?_; rintro e w2 ⟨rfl, m2, hw2⟩)
              go_roundw
              case rel => exact ⟨j + 1, s1, s2, by omega, by go_num, rfl, rfl, hide (by rw [unhide HST, unhide HBB]; simpa using (unhide HM).keep ((Fr.refl _ wr).drewN m2))⟩
              case measure => simp [intOf]; omega
            | false =>
              go_wp2_with (first
                | (go_at_call 54
                   refine (unhide HZI).mono ?_
                   rintro e w2 ⟨rfl, m2, hw2⟩
                   have HMd := hide ((unhide HM).keep ((Fr.refl (fun _ => False) wr).drewN m2)))
                | at_builtin; first
                | (refine wpList_append_as rfl _ _ 22 rfl 23 i0 (.slice none 0 0) 24 Try.underlying22 (unhide HI0).1 (unhide HI0).2.1 (unhide HI0).2.2.1 (unhide HI0).2.2.2 rfl (by decide) w.heap.size s1 _ rfl ((unhide HMd).keep (fr_alloc1 (wr.drewN m2) _)).a1 ((unhide HMd).keep (fr_alloc1 (wr.drewN m2) _)).fr.size _ _ (.slice t.a t.n t.c) rfl (one_newAt _ _ _ _ (by simp)) rfl (by have := unhide HLN; have := unhide HL0; simp only [List.length_map, List.length_append]; omega) ?_
                   intro s1' W3 r1 r2 r3
                   have HM1 := hide ((unhide HMd).app1 (fr_alloc1 (wr.drewN m2) _) (t, x) r1 r2 r3)
                   have p4 : W3.cell? ⟨b2, o2 + j, none⟩ = some (.pointer x) := ((unhide HM1).fr.cell (p := ⟨b2, o2 + j, none⟩) (World.block_lt_of_cell? w _ (unhide HC2)) (fun e => e)).trans (unhide HC2)
                   clear r1 r2 r3)
                | (refine wpList_append_as rfl _ _ 38 rfl 48 j0 (.pointer none) 8 Try.underlying38 (unhide HJ0).1 (unhide HJ0).2.1 (unhide HJ0).2.2.1 (unhide HJ0).2.2.2 rfl (by decide) w.heap.size s2 _ rfl ((unhide HM1).keep (fr_alloc1 W3 _)).a2 ((unhide HM1).keep (fr_alloc1 W3 _)).fr.size _ _ (.pointer x) rfl (one_newAt _ _ _ _ (by simp)) rfl (by have := unhide HLN; have := unhide HL0; simp only [List.length_map, List.length_append]; omega) ?_
                   intro s2' W4 r1 r2 r3
                   have HM2 := hide ((unhide HM1).app2 (by simp) (fr_alloc1 W3 _) (t, x) r1 r2 r3)
                   clear r1 r2 r3))
              go_roundw
              case rel => exact ⟨j + 1, s1', s2', by omega, by go_num, rfl, rfl, hide (by rw [unhide HST, unhide HBB]; simpa using unhide HM2)⟩
              case measure => simp [intOf]; omega
        · as_aux_lemma =>
          have hjv : j = bvn := by omega
          subst hjv
          obtain ⟨c, hc⟩ : ∃ c, c = c0 ++ selT (pB (rdf w1) lk) (bks.zip pb) (lastB lbk) j := ⟨_, rfl⟩
          have hcl : c.length ≤ i + j := by
            have h1 := length_selT (pB (rdf w1) lk) (bks.zip pb) (lastB lbk) j
            have h2 := unhide HL0
            rw [hc, List.length_append]; omega
          have HKC : Hid (∀ e ∈ c, e.1 ∈ bks ∨ e.1 ∈ ks) := hide (by
            rw [hc]
            rintro ⟨e1, e2⟩ he
            rcases List.mem_append.1 he with he | he
            · exact .inr ((unhide HK0) _ he)
            · exact .inl (List.of_mem_zip (mem_selT he)).1)
          rw [← hc] at HM HP
          obtain ⟨n, hn⟩ : ∃ n, c.length = n := ⟨_, rfl⟩
          obtain ⟨s1a, s1n, s1c⟩ := s1
          obtain ⟨s2a, s2n, s2c⟩ := s2
          have en1 : n = s1n := by have := (unhide HM).a1.1; simp only [List.length_map] at this; omega
          have en2 : n = s2n := by have := (unhide HM).a2.1; simp only [List.length_map] at this; omega
          subst en1
          subst en2
          have HV1 : Hid (VL wr ⟨s1a, n, s1c⟩ (c.map fun e => .slice e.1.a e.1.n e.1.c)) := hide (unhide HM).a1.vl
          have HV2 : Hid (VL wr ⟨s2a, n, s2c⟩ (c.map fun e => .pointer e.2)) := hide (unhide HM).a2.vl
          have HFR := hide (unhide HM).fr
          have hn2 : n ≤ 2048 := by omega
          have HEN : Hid (E.length = n) := hide (by rw [← (unhide HP).length_eq, length_gk]; exact hn)
          have HCN := hide hn
          obtain ⟨W, hW⟩ : ∃ W, W = wr := ⟨_, rfl⟩
          subst hW
          clear hc hcl HM hn HL0 HK0
          simp only
          have hmk1 := run_make (P := Try.prog) W 22 23 i0 (.slice none 0 0) Try.underlying22 (unhide HI0).1 (unhide HI0).2.1 .i64 .i64 (n : Int) (n : Int) (by omega) (by omega) (by rw [(unhide HI0).2.2.2]; omega) (by omega)
          have e1 : ((n : Int)).toNat = n := by omega
          rw [e1, (unhide HI0).2.2.1, Nat.mul_one, show Value.cells (.slice none 0 0) = #[.slice none 0 0] from rfl] at hmk1
          have hmk2 := run_make (P := Try.prog) (W.alloc (.cells (madeCells #[.slice none 0 0] n) 23)) 38 48 j0 (.pointer none) Try.underlying38 (unhide HJ0).1 (unhide HJ0).2.1 .i64 .i64 (n : Int) (n : Int) (by omega) (by omega) (by rw [(unhide HJ0).2.2.2]; omega) (by omega)
          rw [e1, (unhide HJ0).2.2.1, Nat.mul_one, show Value.cells (.pointer none) = #[.pointer none] from rfl] at hmk2
          have HM3 : Hid (M3 (rdf w1) (fun s => s ∈ bks ∨ s ∈ ks) W ((W.alloc (.cells (madeCells #[.slice none 0 0] n) 23)).alloc (.cells (madeCells #[.pointer none] n) 48)) n E (gk (rdf w1) c) 0 (List.replicate n Sl.nil) (List.replicate n none)) := hide (by
            have r1 : Row (W.alloc (.cells (madeCells #[.slice none 0 0] n) 23)) W.heap.size 23 1 n n ((List.replicate n Sl.nil).map fun s => .slice s.a s.n s.c) :=
              Row.new W _ 23 1 n n _ (by simp) (Nat.le_refl _) (by unfold maxLen; omega) (by rw [size_madeCells]; simp) (by rw [toList_madeCells_one, List.map_replicate]; simp [Sl.nil])
            have r2 := Row.new (W.alloc (.cells (madeCells #[.slice none 0 0] n) 23)) (madeCells #[.pointer none] n) 48 1 n n ((List.replicate n (none : Option Addr)).map Value.pointer) (by simp) (Nat.le_refl _) (by unfold maxLen; omega) (by rw [size_madeCells]; simp) (by rw [toList_madeCells_one, List.map_replicate]; simp)
            have hz : (W.alloc (.cells (madeCells #[.slice none 0 0] n) 23)).heap.size = W.heap.size + 1 := by simp
            rw [hz] at r2
            exact ⟨r1.alloc _, r2, ((Fr.refl _ W).alloc _).alloc _, Laid.zero⟩)
          clear e1
          generalize madeCells #[.slice none 0 0] n = made1 at *
          generalize madeCells #[.pointer none] n = made2 at *
          go_wp2_with fail
          go_loopw [19] (fun v19 wr => ∃ (q : Nat) (oks : List Sl) (ovs : List (Option Addr)), q ≤ n ∧ v19 = .int .i64 q ∧ Hid (oks.length = n ∧ ovs.length = n) ∧ Hid (M3 (rdf w1) (fun s => s ∈ bks ∨ s ∈ ks) W wr n E (gk (rdf w1) c) q oks ovs)) (fun v _ => n - (intOf v).toNat)
          case atStart => exact ⟨0, _, _, Nat.zero_le _, rfl, hide ⟨by simp, by simp⟩, HM3⟩
          case round =>
            clear HM3 hmk1 hmk2 made1 made2
            obtain ⟨q, oks, ovs, hq, rfl, HL, H3⟩ := hrel
            by_cases hql : q < n
            · as_aux_lemma =>
              obtain ⟨b1, o1, u1, rfl, hc1, g1⟩ := (unhide HV1).at hql
              obtain ⟨b2, o2, u2, rfl, hc2, g2⟩ := (unhide HV2).at hql
              rw [List.getElem?_map] at g1 g2
              obtain ⟨⟨y, x⟩, hyx, rfl⟩ := Option.map_eq_some_iff.1 g1
              have hu2 : u2 = .pointer x := by rw [hyx] at g2; exact (Option.some.inj g2).symm
              subst hu2
              have HYX := hide hyx; have HC1 := hide hc1; have HC2 := hide hc2
              obtain ⟨W3, hW3⟩ : ∃ W, W = wr := ⟨_, rfl⟩
              subst hW3
              clear g1 g2 hyx hc1 hc2
              go_wp2_with fail
              go_loopw [20, 21] (fun v20 v21 wr => ∃ j r m : Nat, j ≤ n ∧ v21 = .int .i64 j ∧ v20 = .int .i64 r ∧ r ≤ j ∧ Hid (r = (c.take j).countP fun e => decide (Pl.cmp (rdf w1 e.1) (rdf w1 y) < 0)) ∧ Hid (wr = W3.drewN m)) (fun _ v _ => n - (intOf v).toNat)
              case atStart => exact ⟨0, 0, 0, Nat.zero_le _, rfl, rfl, Nat.le_refl _, hide (by simp), hide rfl⟩
              case round =>
                obtain ⟨j2, r, m, hj2, rfl, rfl, hrj, HCT, HW⟩ := hrel
                have HFW : Hid (Fr (fun _ => False) W wr) := hide (by rw [unhide HW]; exact (unhide H3).fr.drewN _)
                by_cases hjl : j2 < n
                · obtain ⟨b3, o3, u3, e3, hc3, g3⟩ := (unhide HV1).at hjl
                  cases e3
                  rw [List.getElem?_map] at g3
                  obtain ⟨⟨y2, x2⟩, hy2, rfl⟩ := Option.map_eq_some_iff.1 g3
                  have q1 : wr.cell? ⟨b1, o1 + j2, none⟩ = some (.slice y2.a y2.n y2.c) := ((unhide HFW).cell (p := ⟨b1, o1 + j2, none⟩) (World.block_lt_of_cell? W _ hc3) (fun e => e)).trans hc3
                  have q2 : wr.cell? ⟨b1, o1 + q, none⟩ = some (.slice y.a y.n y.c) := ((unhide HFW).cell (p := ⟨b1, o1 + q, none⟩) (World.block_lt_of_cell? W _ (unhide HC1)) (fun e => e)).trans (unhide HC1)
                  have FW : Fr (fun _ => False) w wr := (unhide HFR).trans (unhide HFW) (fun _ _ e => e)
                  obtain ⟨d, hd⟩ : ∃ d, d = Pl.cmp (rdf w1 y2) (rdf w1 y) := ⟨_, rfl⟩
                  have HA := hide (((((unhide HIN).good y2 ((unhide HKC) _ (List.mem_of_getElem? hy2))).frame FW).cmp (((unhide HIN).good y ((unhide HKC) _ (List.mem_of_getElem? (unhide HYX)))).frame FW)).drew)
                  rw [← hd] at HA
                  have HST : Hid ((c.take (j2 + 1)).countP (fun e => decide (Pl.cmp (rdf w1 e.1) (rdf w1 y) < 0)) = r + if d < 0 then 1 else 0) := hide (by
                    obtain ⟨l1, l2⟩ := List.getElem?_eq_some_iff.1 hy2
                    rw [List.take_succ_eq_append_getElem l1, List.countP_append, ← unhide HCT, l2, hd]
                    congr 1
                    simp [List.countP_cons])
                  clear hc3 g3 hy2 FW hd
                  by_cases hcc : d < 0
                  · go_wp2_with fail
                    go_quiet ((go_at_call 16; with_reducible exact Calls.quiet_of (unhide HA _)))
                    go_wp2_with fail
                    go_roundw
                    case rel => exact ⟨j2 + 1, r + 1, _, by omega, by go_num, by go_num, by omega, hide (by rw [unhide HST, if_pos (by omega)]), hide (by rw [unhide HW, World.drewN_drewN])⟩
                    case measure => simp [intOf]; omega
                  · go_wp2_with fail
                    go_quiet ((go_at_call 16; with_reducible exact Calls.quiet_of (unhide HA _)))
                    go_wp2_with fail
                    go_roundw
                    case rel => exact ⟨j2 + 1, r, _, by omega, by go_num, rfl, by omega, hide (by rw [unhide HST, if_neg (by omega)]; rfl), hide (by rw [unhide HW, World.drewN_drewN])⟩
                    case measure => simp [intOf]; omega
                · have HR : Hid (E[r]? = some (rdf w1 y, x)) := hide (by
                    refine rank_of (i := q) (unhide HE) (unhide HP) (by unfold gk; rw [List.getElem?_map, unhide HYX]; rfl) ?_
                    rw [unhide HCT, List.take_of_length_le (by rw [unhide HCN]; omega)]
                    unfold gk
                    rw [List.countP_map]
                    rfl)
                  have hrn : r < n := by have := (List.getElem?_eq_some_iff.1 (unhide HR)).1; rw [unhide HEN] at this; exact this
                  have HK := hide ((unhide H3).keep (w' := wr) (by rw [unhide HW]; exact (Fr.refl _ W3).drewN m))
                  have l1 : r < oks.length := by rw [(unhide HL).1]; exact hrn
                  have l2 : r < ovs.length := by rw [(unhide HL).2]; exact hrn
                  have x1 : wr.cell? ⟨W.heap.size, r, none⟩ = some (.slice oks[r].a oks[r].n oks[r].c) := (unhide HK).rk.cell? (by rw [List.getElem?_map, List.getElem?_eq_getElem l1]; rfl)
                  have x2 := (unhide HK).rk.frozen r
                  have x3 : wr.cell? ⟨W.heap.size + 1, r, none⟩ = some (.pointer ovs[r]) := (unhide HK).rv.cell? (by rw [List.getElem?_map, List.getElem?_eq_getElem l2]; rfl)
                  have x4 := (unhide HK).rv.frozen r
                  have p1 : wr.cell? ⟨b1, o1 + q, none⟩ = some (.slice y.a y.n y.c) := ((unhide HFW).cell (p := ⟨b1, o1 + q, none⟩) (World.block_lt_of_cell? W _ (unhide HC1)) (fun e => e)).trans (unhide HC1)
                  have p2 : wr.cell? ⟨b2, o2 + q, none⟩ = some (.pointer x) := ((unhide HFW).cell (p := ⟨b2, o2 + q, none⟩) (World.block_lt_of_cell? W _ (unhide HC2)) (fun e => e)).trans (unhide HC2)
                  have hlb2 : b2 < W.heap.size := World.block_lt_of_cell? W _ (unhide HC2)
                  have hnb2 : W.heap.size ≠ b2 := by omega
                  have HL1 := hide l1; have HL2 := hide l2
                  generalize oks[r] = ok at *
                  generalize ovs[r] = ov at *
                  clear l1 l2 hlb2
                  go_wp2_with fail
                  go_roundw
                  case rel =>
                    refine ⟨q + 1, oks.set r y, ovs.set r x, by omega, by go_num, hide ⟨by rw [List.length_set]; exact (unhide HL).1, by rw [List.length_set]; exact (unhide HL).2⟩, hide ?_⟩
                    have k := unhide HK
                    refine ⟨?_, ?_, ?_, k.laid.succ (unhide HE) y x (by unfold gk; rw [List.getElem?_map, unhide HYX]; rfl) ((unhide HKC) _ (List.mem_of_getElem? (unhide HYX))) r (unhide HR) (unhide HL1) (unhide HL2)⟩
                    · have := (k.rk.setCell (j := r) (by rw [List.length_map]; exact unhide HL1) (.slice y.a y.n y.c)).setCell_other ⟨W.heap.size + 1, r, none⟩ (.pointer x) (by simp)
                      rw [← List.map_set] at this
                      exact this
                    · have := (k.rv.setCell_other ⟨W.heap.size, r, none⟩ (.slice y.a y.n y.c) (by simp)).setCell (j := r) (by rw [List.length_map]; exact unhide HL2) (.pointer x)
                      rw [← List.map_set] at this
                      exact this
                    · exact (k.fr.setCell ⟨W.heap.size, r, none⟩ _ (fun h => by simp at h)).setCell ⟨W.heap.size + 1, r, none⟩ _ (fun h => by simp at h; omega)
                  case measure => simp [intOf]; omega
            · as_aux_lemma =>
              go_wp2_with fail
              go_ret2
              have k := unhide H3
              refine ⟨W.heap.size, W.heap.size + 1, oks, ovs, by rw [unhide HEN]; rfl, ?_, ?_, k.laid.all (unhide HP) (by rw [length_gk, unhide HCN]; omega), (unhide HFR).trans k.fr (fun _ _ e => e)⟩
              · rw [unhide HEN]; exact lst_row k.rk
              · rw [unhide HEN]; exact VL.row k.rv
end Go.Proofs.Qxb6615626a.BV
