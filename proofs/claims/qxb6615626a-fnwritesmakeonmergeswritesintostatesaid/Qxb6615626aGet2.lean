/-
  Tree.GetNear, Editor.Get (V = *Version).
-/
import Derived.Test.Qxb6615626aGet
namespace Go.Proofs.Qxb6615626a.BV
open Go.RowKit
set_option linter.unusedVariables false

theorem fnd_lt {f : Sl → List UInt8} {ks : List Sl} {k : List UInt8} (h : fnd f ks k = true) : lb f ks k < ks.length := by
  unfold fnd at h
  cases hg : ks[lb f ks k]? with
  | none => rw [hg] at h; simp at h
  | some s => exact (List.getElem?_eq_some_iff.1 hg).1

set_option maxRecDepth 20000 in
set_option maxHeartbeats 2000000 in
theorem getNear_in (f : Sl → List UInt8) (K : Sl → Prop) (B eb : Nat) (T : Tr) (L : Lf) (j : Nat) (key : Sl) (w : World) (h : Ok f K B w eb T) (hk : KOK f K B w) (hK : K key) (p : Nat) (hp : p ≤ 1000) (hj : T.ls[j]? = some L)
    (hE : EdAt w eb T.root (some ⟨L.nb, 0, none⟩) (loOf T.seps j Sl.nil) (hiOf T.seps j Sl.nil) p)
    (hll : (loOf T.seps j Sl.nil).n ≤ maxLen) (hhl : (hiOf T.seps j Sl.nil).n ≤ maxLen)
    (hw : within (f key) (loB f T.seps j) (hiB f T.seps j) = true) :
    Calls Try.prog 112 #[.agg #[.pointer T.root], .slice key.a key.n key.c, .pointer (some ⟨eb, 2, none⟩)] w (GetPost f K B eb T key w) := by
  obtain ⟨W1, hW1⟩ : ∃ W, W = w.alloc (.cells #[.pointer T.root] 101) := ⟨_, rfl⟩
  have F1 : Fr (fun _ => False) w W1 := by rw [hW1]; exact (Fr.refl _ w).alloc _
  have h1 := h.fr F1 (fun _ _ e => e)
  have hk1 := hk.fr F1 (fun _ _ e => e)
  have hE1 := hE.fr F1 (fun e => e)
  have hLm : L ∈ T.ls := List.mem_of_getElem? hj
  have hL := h1.core.lf L hLm
  have PL := place_of_within h1.core (f key) j L hj hw
  have hlen := h1.full L hLm
  have hasc : AscE f L.es := PL.asc h1.core
  have hfnd := PL.fnd h1.core
  have HH := hide (holds_some eb 2 ⟨L.nb, 0, none⟩ key (loOf T.seps j Sl.nil) (hiOf T.seps j Sl.nil) (f key) (loB f T.seps j) (hiB f T.seps j) W1 hE1.c2 hE1.c3 hE1.c4 (hk1 key hK).1 (byt_lo hk1 T.seps h.core.sk j) (byt_hi hk1 T.seps h.core.sk j) hll hhl)
  rw [hw] at HH
  have HSK := fun n : Nat => hide (seek_is L.nb L.kb L.kc (kss L.es) f key p (W1.drewN n) (by rw [length_kss]; omega) (by omega) (by rw [length_kss]; exact hL.node.c2) hL.key
    (fun s hs => by obtain ⟨e, he, rfl⟩ := List.mem_map.1 hs; exact (hk1 _ (h1.core.kk L hLm e he)).1) (hk1 key hK).1 hasc.keys)
  have hlb := (lb_LB (f := f) hasc.keys (f key)).le
  rw [List.length_map] at hlb
  have hfl := fnd_lt (f := f) (ks := kss L.es) (k := f key)
  rw [length_kss] at hfl
  have c2 := hE1.c2; have c5 := hE1.c5; have fz5 := hE1.fz 5
  have d3 := hL.node.c3
  obtain ⟨i, hi⟩ : ∃ i, i = lb f (kss L.es) (f key) := ⟨_, rfl⟩
  obtain ⟨b, hb⟩ : ∃ b, b = fnd f (kss L.es) (f key) := ⟨_, rfl⟩
  rw [← hi, ← hb] at HSK
  rw [← hi, ← hb] at hfl
  rw [← hb] at hfnd
  have hil : i ≤ L.es.length := by rw [hi]; exact hlb
  have hne : L.nb ≠ eb := fun e => h1.core.ne L hLm (e ▸ .inl rfl)
  have hvb : L.vb ≠ eb := fun e => h1.core.ne L hLm (e ▸ .inr (.inr rfl))
  have HO := hide h1; have HFND := hide hfnd; have HL := hide hL; have HE := hide hE1; have HF1 := hide F1; have HHJ := hide hj; have HLEN := hide hlen
  obtain ⟨r, hr⟩ : ∃ r, r = T.root := ⟨_, rfl⟩
  rw [← hr] at hW1 ⊢
  clear h h1 hk hk1 PL hasc hlb hi hb hw hll hhl hj hL hE hE1 hfnd F1 hlen hr
  cases b with
  | false =>
    clear hfl
    go_enter Try.func112, Try.ntmps112
    go_wp2_with (go_at_call 99; rw [← hW1]; refine (unhide HH).mono ?_; rintro e w1 ⟨rfl, hw1⟩; rw [hw1]; clear hw1 w1 hW1)
    go_quiet ((go_at_call 100; exact Calls.quiet_of (unhide (HSK _))))
    go_wp2_with fail
    refine bodyPost_ret (v := .tuple #[.pointer none, .bool false]) (by simp [results, Try.results112, go_sem]) rfl ?_
    have FW : Fr (fun k => k = eb) w ((W1.drewN nq).setCell ⟨eb, 5, none⟩ (.int .i64 i)) := (((unhide HF1).mono (fun _ _ e => e.elim)).drewN nq).setCell ⟨eb, 5, none⟩ _ (fun _ => rfl)
    refine ⟨none, by rw [unhide HFND], ?_, FW⟩
    have hlen := unhide HLEN
    exact (unhide HO).near (((Fr.refl (fun k => k = eb) W1).drewN nq).setCell ⟨eb, 5, none⟩ _ (fun _ => rfl)) (EdAt.set5 (unhide HE) i) (by omega) (.inr ⟨j, L, unhide HHJ, rfl, rfl, rfl⟩)
  | true =>
    have hlt := hfl rfl
    have dv := (unhide HL).vals.cell? (vvs_get _ _ hlt)
    obtain ⟨x, hx⟩ : ∃ x, x = L.es[i].2 := ⟨_, rfl⟩
    rw [← hx] at dv
    clear hfl hx
    go_enter Try.func112, Try.ntmps112
    go_wp2_with (go_at_call 99; rw [← hW1]; refine (unhide HH).mono ?_; rintro e w1 ⟨rfl, hw1⟩; rw [hw1]; clear hw1 w1 hW1)
    go_quiet ((go_at_call 100; exact Calls.quiet_of (unhide (HSK _))))
    go_wp2_with fail
    refine bodyPost_ret (v := .tuple #[.pointer x, .bool true]) (by simp [results, Try.results112, go_sem]) rfl ?_
    have FW : Fr (fun k => k = eb) w ((W1.drewN nq).setCell ⟨eb, 5, none⟩ (.int .i64 i)) := (((unhide HF1).mono (fun _ _ e => e.elim)).drewN nq).setCell ⟨eb, 5, none⟩ _ (fun _ => rfl)
    refine ⟨x, by rw [unhide HFND], ?_, FW⟩
    have hlen := unhide HLEN
    exact (unhide HO).near (((Fr.refl (fun k => k = eb) W1).drewN nq).setCell ⟨eb, 5, none⟩ _ (fun _ => rfl)) (EdAt.set5 (unhide HE) i) (by omega) (.inr ⟨j, L, unhide HHJ, rfl, rfl, rfl⟩)

set_option maxRecDepth 20000 in
set_option maxHeartbeats 2000000 in
theorem getNear_nil (f : Sl → List UInt8) (K : Sl → Prop) (B eb : Nat) (T : Tr) (key : Sl) (w : World) (h : Ok f K B w eb T) (hr : T.root = none)
    (HH : Calls Try.prog 99 #[.pointer (some ⟨eb, 2, none⟩), .slice key.a key.n key.c] (w.alloc (.cells #[.pointer T.root] 101)) fun e w' => e = .returned (.bool false) ∧ w' = w.alloc (.cells #[.pointer T.root] 101)) :
    Calls Try.prog 112 #[.agg #[.pointer T.root], .slice key.a key.n key.c, .pointer (some ⟨eb, 2, none⟩)] w (GetPost f K B eb T key w) := by
  have hes : T.es = [] := by
    unfold Tr.root at hr
    rcases h.core.sh with ⟨g1, g2, g3⟩ | ⟨I, g1, _⟩
    · rw [g1] at hr
      cases hl : T.ls with
      | nil => unfold Tr.es; rw [hl]; rfl
      | cons L ls => rw [hl] at hr; simp at hr
    · rw [g1] at hr; simp at hr
  have HH' := hide HH
  have HO := hide h; have HES := hide hes
  rw [hr] at HH' ⊢
  clear h hes HH
  go_enter Try.func112, Try.ntmps112
  go_wp2_with (go_at_call 99; refine (unhide HH').mono ?_; rintro e w1 ⟨rfl, hw1⟩; rw [hw1]; clear hw1 w1)
  refine bodyPost_ret (v := .tuple #[.pointer none, .bool false]) (by simp [results, Try.results112, go_sem]) rfl ?_
  exact ⟨none, by rw [unhide HES]; rfl, (unhide HO).fr ((Fr.refl (fun _ => False) w).alloc _) (fun _ _ e => e), (Fr.refl _ w).alloc _⟩

/-- reach, whatever the tree -/
theorem reach_any (f : Sl → List UInt8) (K : Sl → Prop) (B eb : Nat) (T : Tr) (key : Sl) (w : World) (h : Ok f K B w eb T) (hk : KOK f K B w) (hn : T.es.length ≤ 7000) (hkey : Byt w key (f key)) (r : Addr) (hr : T.root = some r) :
    Calls Try.prog 119 #[.pointer (some ⟨eb, 2, none⟩), .pointer (some r), .slice key.a key.n key.c] w (ReachPost f T key eb w) := by
  rcases h.core.sh with ⟨g1, g2, g3⟩ | ⟨I, g1, _⟩
  · cases hl : T.ls with
    | nil =>
      have : T.root = none := by unfold Tr.root; rw [g1, hl]
      rw [this] at hr; cases hr
    | cons L ls =>
      have hls : ls = [] := by rw [hl] at g2; simp at g2; exact g2
      subst hls
      have hr2 : T.root = some ⟨L.nb, 0, none⟩ := by unfold Tr.root; rw [g1, hl]
      rw [hr2] at hr; cases hr
      exact reach_leaf f K B eb T L key w h g1 hl
  · have hr2 : T.root = some ⟨I.rb, 0, none⟩ := by unfold Tr.root; rw [g1]
    rw [hr2] at hr; cases hr
    exact reach_inn f K B eb T I key w h hk hn g1 hkey

set_option maxRecDepth 20000 in
set_option maxHeartbeats 2000000 in
theorem getNear_out (f : Sl → List UInt8) (K : Sl → Prop) (B eb : Nat) (T : Tr) (key : Sl) (w : World) (h : Ok f K B w eb T) (hk : KOK f K B w) (hn : T.es.length ≤ 7000) (hK : K key) (r : Addr) (hr : T.root = some r)
    (HH : Calls Try.prog 99 #[.pointer (some ⟨eb, 2, none⟩), .slice key.a key.n key.c] (w.alloc (.cells #[.pointer T.root] 101)) fun e w' => e = .returned (.bool false) ∧ w' = w.alloc (.cells #[.pointer T.root] 101)) :
    Calls Try.prog 112 #[.agg #[.pointer T.root], .slice key.a key.n key.c, .pointer (some ⟨eb, 2, none⟩)] w (GetPost f K B eb T key w) := by
  obtain ⟨W1, hW1⟩ : ∃ W, W = w.alloc (.cells #[.pointer T.root] 101) := ⟨_, rfl⟩
  have F1 : Fr (fun _ => False) w W1 := by rw [hW1]; exact (Fr.refl _ w).alloc _
  have h1 := h.fr F1 (fun _ _ e => e)
  have hk1 := hk.fr F1 (fun _ _ e => e)
  have hBe : B ≤ eb := h.core.low eb (.inl rfl)
  have c0 : W1.cell? ⟨w.heap.size, 0, none⟩ = some (.pointer (some r)) := by rw [hW1, hr]; simp
  rw [← hW1] at HH
  have HRE := hide (reach_any f K B eb T key W1 h1 hk1 hn (hk1 key hK).1 r hr)
  have HHH := hide HH; have HF1 := hide F1; have HO := hide h1; have HKK := hide hk1; have HR := hide hr
  rw [hr] at hW1 ⊢
  clear h h1 hk hk1 F1 HH hr
  go_enter Try.func112, Try.ntmps112
  go_wp2_with (go_at_call 99; rw [← hW1]; refine (unhide HHH).mono ?_; rintro e w1 ⟨rfl, hw1⟩; rw [hw1]; clear hw1 w1)
  rw [← hW1]
  refine (unhide HRE).mono ?_
  rintro e W2 ⟨rfl, A, L, C, hP, hE2, hF2⟩
  have hLm : L ∈ T.ls := by rw [hP.ls]; simp
  have hj : T.ls[A.length]? = some L := by rw [hP.ls, mid?, if_neg (by omega), if_pos rfl]
  have h2 := (unhide HO).near hF2 hE2 (by omega) (.inr ⟨A.length, L, hj, rfl, rfl, rfl⟩)
  have hk2 := (unhide HKK).fr hF2 (fun k hk e => by omega)
  have hL := h2.core.lf L hLm
  have hlen := h2.full L hLm
  have hasc : AscE f L.es := hP.asc h2.core
  have hfnd := hP.fnd h2.core
  have HFI := hide (find_is L.nb L.kb L.kc (kss L.es) f key W2 (by rw [length_kss]; omega) (by rw [length_kss]; exact hL.node.c2) hL.key
    (fun s hs => by obtain ⟨e, he, rfl⟩ := List.mem_map.1 hs; exact (hk2 _ (h2.core.kk L hLm e he)).1) (hk2 key hK).1 hasc.keys)
  have hlb := (lb_LB (f := f) hasc.keys (f key)).le
  rw [List.length_map] at hlb
  have hfl := fnd_lt (f := f) (ks := kss L.es) (k := f key)
  rw [length_kss] at hfl
  have c2 := hE2.c2; have c5 := hE2.c5; have fz5 := hE2.fz 5
  have d3 := hL.node.c3
  obtain ⟨i, hi⟩ : ∃ i, i = lb f (kss L.es) (f key) := ⟨_, rfl⟩
  obtain ⟨b, hb⟩ : ∃ b, b = fnd f (kss L.es) (f key) := ⟨_, rfl⟩
  rw [← hi, ← hb] at HFI
  rw [← hi, ← hb] at hfl
  rw [← hb] at hfnd
  have hil : i ≤ L.es.length := by rw [hi]; exact hlb
  have HO2 := hide h2; have HFND := hide hfnd; have HL := hide hL; have HE := hide hE2; have HF2 := hide hF2; have HHJ := hide hj; have HLEN := hide hlen
  have hne : L.nb ≠ eb := fun e => h2.core.ne L hLm (e ▸ .inl rfl)
  have hvb : L.vb ≠ eb := fun e => h2.core.ne L hLm (e ▸ .inr (.inr rfl))
  clear h2 hk2 hP hasc hlb hi hb hj hL hE2 hfnd hlen hF2 c0
  cases b with
  | false =>
    clear hfl
    go_wp2_with fail
    refine (unhide HFI).mono ?_
    rintro e w3 ⟨rfl, n3, hw3⟩
    rw [hw3]; clear hw3 w3
    go_wp2_with fail
    refine bodyPost_ret (v := .tuple #[.pointer none, .bool false]) (by simp [results, Try.results112, go_sem]) rfl ?_
    have FX : Fr (fun k => k = eb) W2 ((W2.drewN n3).setCell ⟨eb, 5, none⟩ (.int .i64 i)) := ((Fr.refl (fun k => k = eb) W2).drewN n3).setCell ⟨eb, 5, none⟩ _ (fun _ => rfl)
    have FW : Fr (fun k => k = eb) w ((W2.drewN n3).setCell ⟨eb, 5, none⟩ (.int .i64 i)) := (((unhide HF1).mono (fun _ _ e => e.elim)).trans (unhide HF2) (fun _ _ e => e)).trans FX (fun _ _ e => e)
    refine ⟨none, by rw [unhide HFND], ?_, FW⟩
    have hlen := unhide HLEN
    exact (unhide HO2).near FX (EdAt.set5 (unhide HE) i) (by omega) (.inr ⟨A.length, L, unhide HHJ, rfl, rfl, rfl⟩)
  | true =>
    have hlt := hfl rfl
    have dv := (unhide HL).vals.cell? (vvs_get _ _ hlt)
    obtain ⟨x, hx⟩ : ∃ x, x = L.es[i].2 := ⟨_, rfl⟩
    rw [← hx] at dv
    clear hfl hx
    go_wp2_with fail
    refine (unhide HFI).mono ?_
    rintro e w3 ⟨rfl, n3, hw3⟩
    rw [hw3]; clear hw3 w3
    go_wp2_with fail
    refine bodyPost_ret (v := .tuple #[.pointer x, .bool true]) (by simp [results, Try.results112, go_sem]) rfl ?_
    have FX : Fr (fun k => k = eb) W2 ((W2.drewN n3).setCell ⟨eb, 5, none⟩ (.int .i64 i)) := ((Fr.refl (fun k => k = eb) W2).drewN n3).setCell ⟨eb, 5, none⟩ _ (fun _ => rfl)
    have FW : Fr (fun k => k = eb) w ((W2.drewN n3).setCell ⟨eb, 5, none⟩ (.int .i64 i)) := (((unhide HF1).mono (fun _ _ e => e.elim)).trans (unhide HF2) (fun _ _ e => e)).trans FX (fun _ _ e => e)
    refine ⟨x, by rw [unhide HFND], ?_, FW⟩
    have hlen := unhide HLEN
    exact (unhide HO2).near FX (EdAt.set5 (unhide HE) i) (by omega) (.inr ⟨A.length, L, unhide HHJ, rfl, rfl, rfl⟩)

theorem getNear_any (f : Sl → List UInt8) (K : Sl → Prop) (B eb : Nat) (T : Tr) (key : Sl) (w : World) (h : Ok f K B w eb T) (hk : KOK f K B w) (hm : ∀ s, K s → s.n ≤ maxLen) (hn : T.es.length ≤ 7000) (hK : K key) :
    Calls Try.prog 112 #[.agg #[.pointer T.root], .slice key.a key.n key.c, .pointer (some ⟨eb, 2, none⟩)] w (GetPost f K B eb T key w) := by
  have fin : (Calls Try.prog 99 #[.pointer (some ⟨eb, 2, none⟩), .slice key.a key.n key.c] (w.alloc (.cells #[.pointer T.root] 101)) fun e w' => e = .returned (.bool false) ∧ w' = w.alloc (.cells #[.pointer T.root] 101)) →
      Calls Try.prog 112 #[.agg #[.pointer T.root], .slice key.a key.n key.c, .pointer (some ⟨eb, 2, none⟩)] w (GetPost f K B eb T key w) := fun HH => by
    cases hr : T.root with
    | none => rw [← hr]; exact getNear_nil f K B eb T key w h hr HH
    | some r => rw [← hr]; exact getNear_out f K B eb T key w h hk hn hK r hr HH
  have F1 : Fr (fun _ => False) w (w.alloc (.cells #[.pointer T.root] 101)) := (Fr.refl _ w).alloc _
  have hk1 := hk.fr F1 (fun _ _ e => e)
  obtain ⟨nl, lo, hi, p, hE, hp, hn⟩ := h.ed
  have hE1 := hE.fr F1 (fun e => e)
  rcases hn with rfl | ⟨j, L, hj, rfl, rfl, rfl⟩
  · exact fin (holds_nil eb 2 key _ hE1.c2)
  · have hll : (loOf T.seps j Sl.nil).n ≤ maxLen := by
      unfold loOf
      split
      · cases e : T.seps[j - 1]? with
        | none => exact Nat.zero_le _
        | some s => exact hm s (h.core.sk s (List.mem_of_getElem? e)).1
      · exact Nat.zero_le _
    have hhl : (hiOf T.seps j Sl.nil).n ≤ maxLen := by
      unfold hiOf
      cases e : T.seps[j]? with
      | none => exact Nat.zero_le _
      | some s => exact hm s (h.core.sk s (List.mem_of_getElem? e)).1
    cases hw : within (f key) (loB f T.seps j) (hiB f T.seps j) with
    | true => exact getNear_in f K B eb T L j key w h hk hK p hp hj hE hll hhl hw
    | false =>
      refine fin ?_
      have := holds_some eb 2 ⟨L.nb, 0, none⟩ key (loOf T.seps j Sl.nil) (hiOf T.seps j Sl.nil) (f key) (loB f T.seps j) (hiB f T.seps j) _ hE1.c2 hE1.c3 hE1.c4 (hk1 key hK).1 (byt_lo hk1 T.seps h.core.sk j) (byt_hi hk1 T.seps h.core.sk j) hll hhl
      rw [hw] at this
      exact this

set_option maxRecDepth 20000 in
set_option maxHeartbeats 2000000 in
theorem get_any (f : Sl → List UInt8) (K : Sl → Prop) (B eb : Nat) (T : Tr) (key : Sl) (w : World) (h : Ok f K B w eb T) (hk : KOK f K B w) (hm : ∀ s, K s → s.n ≤ maxLen) (hn : T.es.length ≤ 7000) (hK : K key) :
    Calls Try.prog 79 #[.pointer (some ⟨eb, 0, none⟩), .slice key.a key.n key.c] w (GetPost f K B eb T key w) := by
  have HG := hide (getNear_any f K B eb T key w.drew (h.of_heap rfl) (by exact hk) hm hn hK)
  obtain ⟨nl, lo, hi, p, hE, hp, hn⟩ := h.ed
  have c0 := hE.c0
  obtain ⟨r, hr⟩ : ∃ r, r = T.root := ⟨_, rfl⟩
  rw [← hr] at HG c0
  clear h hk hE hn hr
  go_enter Try.func79, Try.ntmps79
  go_wp2_with fail
  go_region_with (go_at_call 112; refine (unhide HG).mono ?_; rintro e W1 ⟨v, rfl, hO, hF⟩; have HO := hide hO; have HF := hide hF; clear hO hF)
  all_goals go_wp2_with fail
  all_goals refine bodyPost_ret (v := .tuple #[.pointer v, .bool (fnd f (kss T.es) (f key))]) (by simp [results, Try.results79, go_sem]) rfl ?_
  all_goals exact ⟨v, rfl, unhide HO, ⟨(unhide HF).os, (unhide HF).tape, (unhide HF).output, (unhide HF).size, (unhide HF).block⟩⟩
end Go.Proofs.Qxb6615626a.BV
