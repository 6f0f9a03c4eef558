/-
  The tree behind refill; delete at an inner root; Delete (V = *Version).
-/
import Derived.Test.Qxb6615626aDel4
namespace Go.Proofs.Qxb6615626a.BV
open Go.RowKit
set_option linter.unusedVariables false

/-- what the inner node says of the tree behind -/
def Shape (I : Inn) (w' : World) (T' : Tr) : Prop := (T'.inn = some I ∧ I.At w' T'.seps (T'.ls.map Lf.nb) ∧ 2 ≤ T'.ls.length) ∨ (T'.inn = none ∧ ∃ L', T'.ls = [L'] ∧ I.At w' [] [L'.nb])

theorem split_at {α : Type} (l : List α) (j : Nat) (h : j < l.length) : ∃ a x c, l = a ++ x :: c ∧ a.length = j := by
  refine ⟨l.take j, l[j], l.drop (j + 1), ?_, ?_⟩
  · rw [← List.drop_eq_getElem_cons h, List.take_append_drop]
  · rw [List.length_take]; omega

theorem refill_tree {f : Sl → List UInt8} {K : Sl → Prop} {B : Nat} {w w4 w' : World} {eb : Nat} {T : Tr} {I : Inn} {A C : List Lf} {X1 X2 l1 l2 : Lf} {e : Ending}
    (h : Core f K B w eb T) (hfull : ∀ L ∈ T.ls, L.es.length ≤ 256) (hls : T.ls = A ++ X1 :: X2 :: C) (own1 : ∀ k, l1.own k ↔ X1.own k) (own2 : ∀ k, l2.own k ↔ X2.own k) (nb1 : l1.nb = X1.nb) (nb2 : l2.nb = X2.nb)
    (sub1 : List.Sublist l1.es X1.es) (sub2 : List.Sublist l2.es X2.es) (hfr : Fr (fun k => X1.own k ∨ X2.own k) w w4) (hI : T.inn = some I) (h128 : 128 ≤ l1.es.length + l2.es.length) (h400 : l1.es.length + l2.es.length ≤ 400)
    (post : RefPost I T.seps (T.ls.map Lf.nb) l1 l2 A.length w4 e w') :
    e = .returned (.tuple #[]) ∧ ∃ T' : Tr, Core f K B w' eb T' ∧ (∀ L ∈ T'.ls, L.es.length ≤ 256) ∧ T'.es = A.flatMap Lf.es ++ (l1.es ++ l2.es) ++ C.flatMap Lf.es ∧ Fr (T.own eb) w w' ∧ (∀ k, T'.own eb k → T.own eb k ∨ w.heap.size ≤ k) ∧ Fr (fun k => I.own k ∨ X1.own k ∨ X2.own k) w w' ∧ Shape I w' T' := by
  obtain ⟨he, hF, hp⟩ := post
  refine ⟨he, ?_⟩
  have hne : T.ls ≠ [] := by rw [hls]; simp
  have hsl := h.seps_len hne
  have hjs : A.length < T.seps.length := by rw [hls] at hsl; simp at hsl; omega
  obtain ⟨SA, s, SC, hss, hSA⟩ := split_at T.seps A.length hjs
  have hX1 : X1 ∈ T.ls := by rw [hls]; simp
  have hX2 : X2 ∈ T.ls := by rw [hls]; simp
  have hACm : ∀ M, M ∈ A ∨ M ∈ C → M ∈ T.ls := fun M hM => by rw [hls]; rcases hM with hM | hM <;> simp [hM]
  have frX : Fr (fun k => I.own k ∨ X1.own k ∨ X2.own k) w w' := (hfr.mono (fun k _ e => .inr e)).trans hF (fun k _ e => e.elim (fun e => .inl e) (fun e => .inr (.inl ((own1 k).1 e))))
  have frT : Fr (T.own eb) w w' := frX.mono (fun k _ e => by
    rcases e with e | e | e
    · exact .inr (.inr ⟨I, hI, e⟩)
    · exact .inr (.inl ⟨X1, hX1, e⟩)
    · exact .inr (.inl ⟨X2, hX2, e⟩))
  have frC : Fr (fun k => X1.own k ∨ X2.own k ∨ k = eb ∨ ∃ I, T.inn = some I ∧ I.own k) w w' := frX.mono (fun k _ e => by
    rcases e with e | e | e
    · exact .inr (.inr (.inr ⟨I, hI, e⟩))
    · exact .inl e
    · exact .inr (.inl e))
  have hsz := hfr.size
  rcases hp with ⟨L', hle, hL', hnb', hes', hown', hIA⟩ | ⟨L1, R, hgt, hL1, hR, hn1, hs1, hs2, ho1, ho2, hd, s', hs0, hIA⟩
  · have hsub : List.Sublist L'.es (X1.es ++ X2.es) := by rw [hes']; exact sub1.append sub2
    have hown : ∀ k, L'.own k → X1.own k ∨ X2.own k ∨ w.heap.size ≤ k := fun k hk => by
      rcases hown' k hk with e | e
      · exact .inl ((own1 k).1 e)
      · exact .inr (.inr (by omega))
    have e1 : T.seps.take A.length ++ T.seps.drop (A.length + 1) = SA ++ SC := by
      rw [hss, ← hSA, List.take_left]
      congr 1
      rw [show SA ++ s :: SC = (SA ++ [s]) ++ SC from by simp]
      have : SA.length + 1 = (SA ++ [s]).length := by simp
      rw [this, List.drop_left]
    have e2 : (T.ls.map Lf.nb).take (A.length + 1) ++ (T.ls.map Lf.nb).drop (A.length + 1 + 1) = (A ++ L' :: C).map Lf.nb := by
      have a1 : T.ls = (A ++ [X1]) ++ ([X2] ++ C) := by rw [hls]; simp
      have a2 : T.ls = (A ++ [X1, X2]) ++ C := by rw [hls]; simp
      have b1 : (T.ls.map Lf.nb).take (A.length + 1) = (A ++ [X1]).map Lf.nb := by
        rw [a1, List.map_append, List.take_left' (by simp)]
      have b2 : (T.ls.map Lf.nb).drop (A.length + 1 + 1) = C.map Lf.nb := by
        rw [a2, List.map_append, List.drop_left' (by simp)]
      rw [b1, b2]; simp [hnb', nb1]
    rw [e1, e2] at hIA
    have es' : (⟨A ++ L' :: C, none, SA ++ SC⟩ : Tr).es = A.flatMap Lf.es ++ (l1.es ++ l2.es) ++ C.flatMap Lf.es := by
      unfold Tr.es; show (A ++ L' :: C).flatMap Lf.es = _
      rw [List.flatMap_append, List.flatMap_cons, hes']; simp only [List.append_assoc]
    have hfl : ∀ L ∈ A ++ L' :: C, L.es.length ≤ 256 := fun M hM => by
      rcases List.mem_append.1 hM with e | e
      · exact hfull M (hACm M (.inl e))
      · rcases List.mem_cons.1 e with rfl | e
        · rw [hes', List.length_append]; exact hle
        · exact hfull M (hACm M (.inr e))
    by_cases hc : A = [] ∧ C = []
    · obtain ⟨hA, hC⟩ := hc
      obtain ⟨c1, c2⟩ := h.merge (inn' := none) hls hss hSA hL' hsub hown frC (.inl ⟨rfl, hA, hC⟩)
      refine ⟨_, c1, hfl, es', frT, c2, frX, .inr ⟨rfl, L', by subst hA hC; rfl, ?_⟩⟩
      have hSA0 : SA = [] := List.length_eq_zero_iff.1 (by rw [hSA, hA]; rfl)
      have hSC0 : SC = [] := by
        have : SC.length = C.length := by rw [hls, hss] at hsl; simp at hsl; omega
        exact List.length_eq_zero_iff.1 (by rw [this, hC]; rfl)
      rw [hSA0, hSC0, hA, hC] at hIA
      exact hIA
    · have h2 : 2 ≤ (A ++ L' :: C).length := by
        simp
        by_cases a : A = []
        · have : C ≠ [] := fun c => hc ⟨a, c⟩
          have := List.length_pos_iff.2 this; omega
        · have := List.length_pos_iff.2 a; omega
      obtain ⟨c1, c2⟩ := h.merge (inn' := some I) hls hss hSA hL' hsub hown frC (.inr ⟨I, hI, rfl, hIA, h2, by rw [hes', List.length_append]; exact h128⟩)
      exact ⟨_, c1, hfl, es', frT, c2, frX, .inl ⟨rfl, hIA, h2⟩⟩
  · have hlen : (l1.es ++ l2.es).length = l1.es.length + l2.es.length := List.length_append
    have hsub : List.Sublist (L1.es ++ R.es) (X1.es ++ X2.es) := by rw [hs1, hs2, List.take_append_drop]; exact sub1.append sub2
    have e1 : T.seps.set A.length s' = SA ++ s' :: SC := by rw [hss, ← hSA]; simp
    have e2 : (T.ls.map Lf.nb).set (A.length + 1) R.nb = (A ++ L1 :: R :: C).map Lf.nb := by
      have a1 : T.ls.map Lf.nb = (A.map Lf.nb ++ [X1.nb]) ++ X2.nb :: C.map Lf.nb := by rw [hls]; simp
      have a2 : A.length + 1 = (A.map Lf.nb ++ [X1.nb]).length := by simp
      rw [a1, a2, List.set_append_right _ _ (Nat.le_refl _), Nat.sub_self, List.set_cons_zero]
      simp [hn1, nb1]
    rw [e1, e2] at hIA
    have h1 : 128 ≤ L1.es.length := by rw [hs1, List.length_take, hlen]; omega
    have h2 : 128 ≤ R.es.length := by rw [hs2, List.length_drop, hlen]; omega
    have hs' : s' = (R.es[0]'(by omega)).1 := by
      rw [List.getElem?_map, List.getElem?_eq_getElem (by omega)] at hs0
      exact (Option.some.inj hs0).symm
    obtain ⟨c1, c2⟩ := h.resplit hls hss hSA hL1 hR hsub (fun k hk => by
      rcases ho1 k hk with e | e
      · exact .inl ((own1 k).1 e)
      · exact .inr (.inr (by omega))) (fun k hk => by have := ho2 k hk; omega) hd frC hI hIA h1 h2 hs'
    refine ⟨_, c1, ?_, ?_, frT, c2, frX, .inl ⟨rfl, hIA, by simp; omega⟩⟩
    · intro M hM
      rcases List.mem_append.1 hM with e | e
      · exact hfull M (hACm M (.inl e))
      · rcases List.mem_cons.1 e with rfl | e
        · rw [hs1, List.length_take, hlen]; omega
        · rcases List.mem_cons.1 e with rfl | e
          · rw [hs2, List.length_drop, hlen]; omega
          · exact hfull M (hACm M (.inr e))
    · unfold Tr.es; show (A ++ L1 :: R :: C).flatMap Lf.es = _
      rw [List.flatMap_append, List.flatMap_cons, List.flatMap_cons, hs1, hs2, ← List.append_assoc (List.take _ _), List.take_append_drop]; simp only [List.append_assoc]

def DelInnPost (f : Sl → List UInt8) (K : Sl → Prop) (B eb : Nat) (T : Tr) (I : Inn) (key : Sl) (w : World) (e : Ending) (w' : World) : Prop :=
  e = .returned (.tuple #[]) ∧ ∃ T' : Tr, Core f K B w' eb T' ∧ (∀ L ∈ T'.ls, L.es.length ≤ 256) ∧ T'.es = del f (f key) T.es ∧ Fr (T.own eb) w w' ∧ (∀ k, T'.own eb k → T.own eb k ∨ w.heap.size ≤ k) ∧ EdAt w' eb (some ⟨I.rb, 0, none⟩) none Sl.nil Sl.nil 0 ∧ Shape I w' T'

theorem Place.del {f : Sl → List UInt8} {K : Sl → Prop} {B : Nat} {w : World} {eb : Nat} {T : Tr} {k : List UInt8} {A : List Lf} {L : Lf} {C : List Lf} (P : Place f T k A L C) (h : Core f K B w eb T) : A.flatMap Lf.es ++ Qxb6615626a.del f k L.es ++ C.flatMap Lf.es = Qxb6615626a.del f k T.es := by
  have hes : T.es = A.flatMap Lf.es ++ L.es ++ C.flatMap Lf.es := by unfold Tr.es; rw [P.ls, List.flatMap_append, List.flatMap_cons, List.append_assoc]
  rw [hes]
  exact (del_mid (P.below h) (P.above h)).symm

theorem pw_get {ls : List Lf} (h : ls.Pairwise fun L M => ∀ k, L.own k → ¬ M.own k) {i j : Nat} {L M : Lf} (hi : ls[i]? = some L) (hj : ls[j]? = some M) (hne : i ≠ j) : ∀ k, L.own k → ¬ M.own k := by
  obtain ⟨a1, a2⟩ := List.getElem?_eq_some_iff.1 hi
  obtain ⟨b1, b2⟩ := List.getElem?_eq_some_iff.1 hj
  intro k hk hk'
  rcases Nat.lt_or_gt_of_ne hne with c | c
  · exact List.pairwise_iff_getElem.1 h i j a1 b1 c k (a2 ▸ hk) (b2 ▸ hk')
  · exact List.pairwise_iff_getElem.1 h j i b1 a1 c k (b2 ▸ hk') (a2 ▸ hk)

set_option maxRecDepth 20000 in
set_option maxHeartbeats 4000000 in
theorem delete_inn (f : Sl → List UInt8) (K : Sl → Prop) (B eb : Nat) (T : Tr) (I : Inn) (key : Sl) (w : World) (h : Core f K B w eb T) (hfull : ∀ L ∈ T.ls, L.es.length ≤ 256) (hk : KOK f K B w) (hK : K key) (hn : T.es.length ≤ 7000) (hI : T.inn = some I)
    (hE : EdAt w eb (some ⟨I.rb, 0, none⟩) none Sl.nil Sl.nil 0) (hb : fnd f (kss T.es) (f key) = true) :
    Calls Try.prog 80 #[.pointer (some ⟨eb, 0, none⟩), .pointer (some ⟨I.rb, 0, none⟩), .slice key.a key.n key.c] w (DelInnPost f K B eb T I key w) := by
  obtain ⟨hIA, h2, hsl, h128, hap, hIe⟩ : I.At w T.seps (T.ls.map Lf.nb) ∧ 2 ≤ T.ls.length ∧ T.seps.length + 1 = T.ls.length ∧ (∀ L ∈ T.ls, 128 ≤ L.es.length) ∧ (∀ L ∈ T.ls, ∀ k, L.own k → ¬ I.own k) ∧ ¬ I.own eb := by
    rcases h.sh with ⟨g1, _⟩ | ⟨I0, g1, g⟩
    · rw [hI] at g1; cases g1
    · rw [hI] at g1; cases g1; exact g
  have hsz : T.ls.length ≤ 60 := by have := leaves_le T.ls h128; unfold Tr.es at hn; omega
  have hsa : T.seps.length + 1 ≤ T.ls.length := by omega
  have hsb : T.ls.length ≤ T.seps.length + 1 := by omega
  have HSL := hide hsl
  clear hsl
  have n2 := hIA.node.c2; have n4 := hIA.node.c4
  have HRO := hide (route_any I.rb I.kb I.kc T.seps f key w (by omega) n2 hIA.key (fun s hs => (hk s (h.sk s hs).1).1) (hk key hK).1 h.sa)
  have HO := hide h; have HE := hide hE; have HIA := hide hIA; have HAP := hide hap; have HK := hide hk; have H128 := hide h128; have HFULL := hide hfull; have HB := hide hb
  clear h hE hIA hk hap h128 hfull hb
  go_enter Try.func80, Try.ntmps80
  go_wp2_with (go_at_call 81; refine (leaf_no I.rb _ _ _ _ n4).mono ?_; rintro e w1 ⟨rfl, hw1⟩; rw [hw1]; clear hw1 w1)
  refine (unhide HRO).mono ?_
  rintro e w1 ⟨i, rfl, hub, m1, rfl⟩
  have hile := hub.le
  have hil : i < T.ls.length := by omega
  obtain ⟨L, hL⟩ : ∃ L, L = T.ls[i] := ⟨_, rfl⟩
  have hLi : T.ls[i]? = some L := by rw [hL]; exact List.getElem?_eq_getElem hil
  have hLm : L ∈ T.ls := List.mem_of_getElem? hLi
  have hkid : w.cell? ⟨I.cb, i, none⟩ = some (.pointer (some ⟨L.nb, 0, none⟩)) := by
    have := (unhide HIA).kid i (by rw [List.length_map]; exact hil)
    rw [List.getElem_map, ← hL] at this; exact this
  have hfz := (unhide HIA).kids.frozen i
  have hLat := (unhide HO).lf L hLm
  have l0 := hLat.node.c0
  have e1 := (unhide HE).c1
  have PL := place_of_route (unhide HO) (f key) i L hLi hub
  have hcl : (T.ls.map Lf.nb).length = T.ls.length := List.length_map ..
  rw [hcl] at n4
  have HUB := hide hub; have HL := hide hL; have HLI := hide hLi; have HLA := hide hLat; have HP := hide PL
  clear hub hL hLi hLat PL HRO hcl
  have hsame : ∀ m, (w.drewN m).setCell ⟨I.cb, i, none⟩ (.pointer (some ⟨L.nb, 0, none⟩)) = w.drewN m := fun m => setCell_same _ _ _ _ hkid
  go_wp2_with (go_at_call 70; refine (own_any eb L.nb _ (by exact l0) (by exact e1)).mono ?_; rintro e w2 ⟨rfl, m2, rfl⟩)
  obtain ⟨W1, hW1⟩ : ∃ W, W = w.drewN (m1 + m2) := ⟨_, rfl⟩
  rw [← hW1]
  have F1 : Fr (fun _ => False) w W1 := by rw [hW1]; exact (Fr.refl _ w).drewN _
  have hk1 := (unhide HK).fr F1 (fun _ _ e => e)
  have hlen := (unhide HFULL) L hLm
  have hasc := (unhide HP).asc (unhide HO)
  have hfn : fnd f (kss L.es) (f key) = true := by rw [← (unhide HP).fnd (unhide HO)]; exact unhide HB
  refine (delete_leaf f L eb key W1 ((unhide HLA).fr F1 (fun _ _ e => e)) hlen (fun e he => (hk1 _ ((unhide HO).kk L hLm e he)).1) (hk1 key hK).1 hasc hfn).mono ?_
  rintro e w4 ⟨rfl, hL', hF⟩
  have F4 : Fr L.own w w4 := (F1.mono (fun _ _ e => e.elim)).trans hF (fun _ _ e => e)
  have hd1 := del_len (k := f key) hasc
  have hsub := del_sub (f := f) (f key) L.es
  have hd2 := hsub.length_le
  have hPd := (unhide HP).del (unhide HO)
  have hel : eb ≠ L.nb ∧ ¬ L.own eb := ⟨fun e => (unhide HO).ne L hLm (.inl e), (unhide HO).ne L hLm⟩
  have E4 : EdAt w4 eb (some ⟨I.rb, 0, none⟩) none Sl.nil Sl.nil 0 := (unhide HE).fr F4 hel.2
  have I4 : I.At w4 T.seps (T.ls.map Lf.nb) := (unhide HIA).fr F4 (fun k hk hx => unhide HAP L hLm k hx hk)
  have h128L := (unhide H128) L hLm
  obtain ⟨es', hes'⟩ : ∃ es', es' = Qxb6615626a.del f (f key) L.es := ⟨_, rfl⟩
  rw [← hes'] at hL' hd1 hsub hd2 hPd
  have k2 := hL'.node.c2; have k4 := hL'.node.c4
  have HL' := hide hL'; have HF4 := hide F4; have HSUB := hide hsub; have HPD := hide hPd; have HE4 := hide E4; have HI4 := hide I4; have HEL := hide hel
  clear hL' F4 hsub hPd E4 I4 F1 hk1 hW1 hF hasc hfn n2 n4 hkid hfz l0 e1 hsame hes' hel
  by_cases hov : 128 ≤ es'.length
  · have hd : decide ((es'.length : Int) < 128) = false := by rw [decide_eq_false_iff_not]; omega
    have HOV := hide hov
    clear hov hd1 hd2 hlen h128L
    go_wp2_with (first | (go_at_call 72; refine (size_leaf L.nb _ _ _ _ k2 k4).mono ?_; rintro e w5 ⟨rfl, hw5⟩; rw [hw5]; clear hw5 w5) | (go_at_call 73; refine (most_leaf L.nb _ k4).mono ?_; rintro e w5 ⟨rfl, hw5⟩; rw [hw5]; clear hw5 w5))
    go_end0
    obtain ⟨c1, c2⟩ := (unhide HO).less (L' := { L with es := es' }) (unhide HP).ls (unhide HL') rfl (unhide HSUB) (fun k hk => .inl hk) ((unhide HF4).mono (fun k _ e => .inl e)) (.inr (unhide HOV))
    refine ⟨rfl, _, c1, ?_, ?_, (unhide HF4).mono (fun k _ e => .inr (.inl ⟨L, hLm, e⟩)), c2, unhide HE4, .inl ⟨hI, ?_, ?_⟩⟩
    · intro M hM
      rcases List.mem_append.1 hM with e | e
      · exact unhide HFULL M (List.mem_of_mem_take e)
      · rcases List.mem_cons.1 e with rfl | e
        · have := (unhide HSUB).length_le
          have := unhide HFULL L hLm
          show es'.length ≤ 256
          omega
        · exact unhide HFULL M (List.mem_of_mem_drop e)
    · rw [← unhide HPD]; unfold Tr.es
      show (T.ls.take i ++ { L with es := es' } :: T.ls.drop (i + 1)).flatMap Lf.es = _
      rw [List.flatMap_append, List.flatMap_cons, List.append_assoc]
    · have : (T.ls.take i ++ ({ L with es := es' } : Lf) :: T.ls.drop (i + 1)).map Lf.nb = T.ls.map Lf.nb := by
        conv => rhs; rw [(unhide HP).ls]
        simp
      show I.At w4 T.seps ((T.ls.take i ++ ({ L with es := es' } : Lf) :: T.ls.drop (i + 1)).map Lf.nb)
      rw [this]; exact unhide HI4
    · show 2 ≤ (T.ls.take i ++ ({ L with es := es' } : Lf) :: T.ls.drop (i + 1)).length
      simp; omega
  · have hd : decide ((es'.length : Int) < 128) = true := by rw [decide_eq_true_iff]; omega
    go_wp2_with (first | (go_at_call 72; refine (size_leaf L.nb _ _ _ _ k2 k4).mono ?_; rintro e w5 ⟨rfl, hw5⟩; rw [hw5]; clear hw5 w5) | (go_at_call 73; refine (most_leaf L.nb _ k4).mono ?_; rintro e w5 ⟨rfl, hw5⟩; rw [hw5]; clear hw5 w5))
    have post : Hid (∀ e w', (∃ A X1 X2 C l1 l2, T.ls = A ++ X1 :: X2 :: C ∧ (∀ k, Lf.own l1 k ↔ X1.own k) ∧ (∀ k, Lf.own l2 k ↔ X2.own k) ∧ l1.nb = X1.nb ∧ l2.nb = X2.nb ∧ List.Sublist l1.es X1.es ∧ List.Sublist l2.es X2.es ∧ Fr (fun k => X1.own k ∨ X2.own k) w w4 ∧ 128 ≤ l1.es.length + l2.es.length ∧ l1.es.length + l2.es.length ≤ 400 ∧
        A.flatMap Lf.es ++ (l1.es ++ l2.es) ++ C.flatMap Lf.es = Qxb6615626a.del f (f key) T.es ∧ RefPost I T.seps (T.ls.map Lf.nb) l1 l2 A.length w4 e w') → DelInnPost f K B eb T I key w e w') := hide (by
      rintro e w' ⟨A, X1, X2, C, l1, l2, a1, a2, a3, a4, a5, a6, a7, a8, a9, a10, a11, a12⟩
      obtain ⟨b1, T', b2, b3, b4, b5, b6, b7, b8⟩ := refill_tree (unhide HO) (unhide HFULL) a1 a2 a3 a4 a5 a6 a7 a8 hI a9 a10 a12
      refine ⟨b1, T', b2, b3, b4.trans a11, b5, b6, (unhide HE).fr b7 (fun e => ?_), b8⟩
      rcases e with e | e | e
      · exact hIe e
      · exact (unhide HO).ne X1 (by rw [a1]; simp) e
      · exact (unhide HO).ne X2 (by rw [a1]; simp) e)
    by_cases hlast : i + 1 < T.ls.length
    · -- the neighbour on the right
      obtain ⟨N, hN⟩ : ∃ N, N = T.ls[i + 1] := ⟨_, rfl⟩
      have hNi : T.ls[i + 1]? = some N := by rw [hN]; exact List.getElem?_eq_getElem hlast
      have hNm : N ∈ T.ls := List.mem_of_getElem? hNi
      have hNL := pw_get (unhide HO).pw hNi (unhide HLI) (by omega)
      have N4 : N.At w4 := ((unhide HO).lf N hNm).fr (unhide HF4) (fun k hk => hNL k hk)
      have hN1 := unhide HFULL N hNm
      have hN2 := unhide H128 N hNm
      have hlsX : T.ls = T.ls.take i ++ L :: N :: T.ls.drop (i + 1 + 1) := by
        rw [hN, ← List.drop_eq_getElem_cons hlast]; exact (unhide HP).ls
      refine (refill_any I T.seps (T.ls.map Lf.nb) { L with es := es' } N eb i i w4 (unhide HI4) (unhide HL') N4 (unhide HE4).c1 (by rw [List.length_map]; exact unhide HSL) (by rw [List.length_map]; exact hsz)
        (by rw [List.getElem?_map, unhide HLI]; rfl) (by rw [List.getElem?_map, hNi]; rfl) (.inl rfl) (fun k hk hk' => hNL k hk' hk) (fun k hk => unhide HAP L hLm k hk) (fun k hk => unhide HAP N hNm k hk) (unhide HEL).2
        (by show 128 ≤ es'.length + _; omega) (by show es'.length ≤ 256; omega) hN1 (by show es'.length + _ ≤ 400; omega)).mono ?_
      intro e w5 hR
      have he : e = .returned (.tuple #[]) := hR.1
      subst he
      have HRR := hide hR; have HX := hide hlsX; have HNN := hide hN
      clear hR hlsX hN hNi hNL N4
      go_wp2_with fail
      go_end0
      have hR := unhide HRR; have hlsX := unhide HX; have hN := unhide HNN
      refine unhide post _ _ ⟨T.ls.take i, L, N, T.ls.drop (i + 1 + 1), { L with es := es' }, N, hlsX, fun k => Iff.rfl, fun k => Iff.rfl, rfl, rfl, unhide HSUB, List.Sublist.refl _, (unhide HF4).mono (fun k _ e => .inl e), by show 128 ≤ es'.length + _; omega, by show es'.length + _ ≤ 400; omega, ?_, ?_⟩
      · rw [← unhide HPD, hN, List.drop_eq_getElem_cons hlast, List.flatMap_cons]; simp only [List.append_assoc]
      · have : (T.ls.take i).length = i := by rw [List.length_take]; omega
        rw [this]; exact hR
    · -- the neighbour on the left
      obtain ⟨j, hj⟩ : ∃ j, i = j + 1 := ⟨i - 1, by omega⟩
      subst hj
      have hjl : j < T.ls.length := by omega
      obtain ⟨N, hN⟩ : ∃ N, N = T.ls[j] := ⟨_, rfl⟩
      have hNi : T.ls[j]? = some N := by rw [hN]; exact List.getElem?_eq_getElem hjl
      have hNm : N ∈ T.ls := List.mem_of_getElem? hNi
      have hNL := pw_get (unhide HO).pw hNi (unhide HLI) (by omega)
      have N4 : N.At w4 := ((unhide HO).lf N hNm).fr (unhide HF4) (fun k hk => hNL k hk)
      have hN1 := unhide HFULL N hNm
      have hN2 := unhide H128 N hNm
      have htk : T.ls.take (j + 1) = T.ls.take j ++ [N] := by rw [List.take_succ_eq_append_getElem hjl, hN]
      have hlsX : T.ls = T.ls.take j ++ N :: L :: T.ls.drop (j + 1 + 1) := by
        have := (unhide HP).ls
        rw [htk, List.append_assoc] at this; exact this
      refine (refill_any I T.seps (T.ls.map Lf.nb) N { L with es := es' } eb (j + 1) j w4 (unhide HI4) N4 (unhide HL') (unhide HE4).c1 (by rw [List.length_map]; exact unhide HSL) (by rw [List.length_map]; exact hsz)
        (by rw [List.getElem?_map, hNi]; rfl) (by rw [List.getElem?_map, unhide HLI]; rfl) (.inr ⟨rfl, by rw [List.length_map]; omega⟩) (fun k hk hk' => hNL k hk hk') (fun k hk => unhide HAP N hNm k hk) (fun k hk => unhide HAP L hLm k hk) ((unhide HO).ne N hNm)
        (by show 128 ≤ _ + es'.length; omega) hN1 (by show es'.length ≤ 256; omega) (by show _ + es'.length ≤ 400; omega)).mono ?_
      intro e w5 hR
      have he : e = .returned (.tuple #[]) := hR.1
      subst he
      have HRR := hide hR; have HX := hide hlsX; have HNN := hide htk
      clear hR hlsX hN hNi hNL N4 htk
      go_wp2_with fail
      go_end0
      have hR := unhide HRR; have hlsX := unhide HX; have htk := unhide HNN
      refine unhide post _ _ ⟨T.ls.take j, N, L, T.ls.drop (j + 1 + 1), N, { L with es := es' }, hlsX, fun k => Iff.rfl, fun k => Iff.rfl, rfl, rfl, List.Sublist.refl _, unhide HSUB, (unhide HF4).mono (fun k _ e => .inr e), by show 128 ≤ _ + es'.length; omega, by show _ + es'.length ≤ 400; omega, ?_, ?_⟩
      · rw [← unhide HPD, htk, List.flatMap_append]; simp
      · have : (T.ls.take j).length = j := by rw [List.length_take]; omega
        rw [this]; exact hR
end Go.Proofs.Qxb6615626a.BV
