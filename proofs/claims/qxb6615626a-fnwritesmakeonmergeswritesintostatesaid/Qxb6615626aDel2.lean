/-
  Two leaves made one, or shared out anew (V = *Version).
-/
import Derived.Test.Qxb6615626aDel1
namespace Go.Proofs.Qxb6615626a.BV
open Go.RowKit
set_option linter.unusedVariables false

section
variable {f : Sl → List UInt8} {K : Sl → Prop} {B : Nat} {w w' : World} {eb : Nat} {T : Tr}

theorem Core.sa? (h : Core f K B w eb T) {i j : Nat} {s t : Sl} (hi : T.seps[i]? = some s) (hj : T.seps[j]? = some t) (hij : i < j) : Pl.lt (f s) (f t) := by
  obtain ⟨a1, a2⟩ := List.getElem?_eq_some_iff.1 hi
  obtain ⟨b1, b2⟩ := List.getElem?_eq_some_iff.1 hj
  rw [← a2, ← b2]
  exact h.sa.lt i j b1 hij

theorem Core.above? (h : Core f K B w eb T) {i j : Nat} {t : Sl} {N : Lf} (hj : T.seps[j]? = some t) (hi : T.ls[i]? = some N) (hij : j < i) (hne : T.ls ≠ []) : ∀ e ∈ N.es, ¬ Pl.lt (f e.1) (f t) := by
  intro e he
  obtain ⟨m, rfl⟩ : ∃ m, i = m + 1 := ⟨i - 1, by omega⟩
  have hl := h.seps_len hne
  have him := (List.getElem?_eq_some_iff.1 hi).1
  have hm : m < T.seps.length := by omega
  have h1 := h.sr m _ N (List.getElem?_eq_getElem hm) hi e he
  by_cases e1 : j = m
  · subst e1
    rw [List.getElem?_eq_getElem hm] at hj
    have : T.seps[j] = t := Option.some.inj hj
    rw [← this]; exact h1
  · have h2 := h.sa? hj (List.getElem?_eq_getElem hm) (by omega)
    exact Pl.not_lt_of_lt (Pl.lt_of_lt_of_le h2 h1)

theorem Core.below? (h : Core f K B w eb T) {i j : Nat} {t : Sl} {N : Lf} (hj : T.seps[j]? = some t) (hi : T.ls[i]? = some N) (hij : i ≤ j) : ∀ e ∈ N.es, Pl.lt (f e.1) (f t) := by
  intro e he
  have hjl := (List.getElem?_eq_some_iff.1 hj).1
  have hm : i < T.seps.length := by omega
  have h1 := h.sl i _ N (List.getElem?_eq_getElem hm) hi e he
  by_cases e1 : i = j
  · subst e1
    rw [List.getElem?_eq_getElem hm] at hj
    have : T.seps[i] = t := Option.some.inj hj
    rw [← this]; exact h1
  · exact Pl.lt_trans h1 (h.sa? (List.getElem?_eq_getElem hm) hj (by omega))

/-- L and M have become L' -/
theorem Core.merge {A : List Lf} {L M L' : Lf} {C : List Lf} {SA SC : List Sl} {s : Sl} {inn' : Option Inn}
    (h : Core f K B w eb T) (hls : T.ls = A ++ L :: M :: C) (hss : T.seps = SA ++ s :: SC) (hSA : SA.length = A.length)
    (hL : L'.At w') (hsub : List.Sublist L'.es (L.es ++ M.es)) (hown : ∀ k, L'.own k → L.own k ∨ M.own k ∨ w.heap.size ≤ k)
    (hfr : Fr (fun k => L.own k ∨ M.own k ∨ k = eb ∨ ∃ I, T.inn = some I ∧ I.own k) w w')
    (hsh : (inn' = none ∧ A = [] ∧ C = []) ∨ ∃ I, T.inn = some I ∧ inn' = some I ∧ I.At w' (SA ++ SC) ((A ++ L' :: C).map Lf.nb) ∧ 2 ≤ (A ++ L' :: C).length ∧ 128 ≤ L'.es.length) :
    Core f K B w' eb ⟨A ++ L' :: C, inn', SA ++ SC⟩ ∧ (∀ k, Tr.own ⟨A ++ L' :: C, inn', SA ++ SC⟩ eb k → T.own eb k ∨ w.heap.size ≤ k) := by
  have hls1 : T.ls = A ++ [L, M] ++ C := by rw [hls]; simp
  have e1 : A ++ L' :: C = A ++ [L'] ++ C := by simp
  have hne : T.ls ≠ [] := by rw [hls]; simp
  have hl := h.seps_len hne
  have hCl : SC.length = C.length := by rw [hls, hss] at hl; simp at hl; omega
  have hLat : T.ls[A.length]? = some L := by rw [hls, mid?, if_neg (by omega), if_pos rfl]
  have hMat : T.ls[A.length + 1]? = some M := by rw [hls, two? A L M L C, if_neg (by omega), if_neg (by omega), if_pos rfl]
  have hsat : T.seps[A.length]? = some s := by rw [hss, mid?, if_neg (by omega), if_pos hSA.symm]
  have sI : ∀ j, (SA ++ SC)[j]? = if j < A.length then T.seps[j]? else T.seps[j + 1]? := fun j => by
    by_cases c : j < A.length
    · rw [if_pos c, hss, List.getElem?_append_left (by omega), List.getElem?_append_left (by omega)]
    · rw [if_neg c, hss, List.getElem?_append_right (by omega), List.getElem?_append_right (by omega), show j + 1 - SA.length = (j - SA.length) + 1 from by omega, List.getElem?_cons_succ]
  have lI : ∀ j, (A ++ [L'] ++ C)[j]? = if j < A.length then T.ls[j]? else if j = A.length then some L' else T.ls[j + 1]? := fun j => by
    rw [← e1, mid?]
    by_cases c : j < A.length
    · rw [if_pos c, if_pos c, hls, List.getElem?_append_left c]
    · rw [if_neg c, if_neg c]
      by_cases c2 : j = A.length
      · rw [if_pos c2, if_pos c2]
      · rw [if_neg c2, if_neg c2, hls, List.getElem?_append_right (by omega), show j + 1 - A.length = (j - A.length - 1) + 1 + 1 from by omega, List.getElem?_cons_succ, List.getElem?_cons_succ]
  have mem2 : ∀ e ∈ L'.es, e ∈ L.es ∨ e ∈ M.es := fun e he => List.mem_append.1 (hsub.subset he)
  rw [e1] at hsh ⊢
  refine h.cut hls1 (by simpa using hL) (by simpa using hsub) (fun N hN k hk => ?_) (List.pairwise_singleton _ _) (hfr.mono (fun k _ hk => ?_)) ?_ ?_ ?_ ?_ ?_
  · have : N = L' := by simpa using hN
    subst this
    rcases hown k hk with e | e | e
    · exact .inl ⟨L, by simp, e⟩
    · exact .inl ⟨M, by simp, e⟩
    · exact .inr e
  · rcases hk with e | e | e
    · exact .inl ⟨L, by simp, e⟩
    · exact .inl ⟨M, by simp, e⟩
    · exact .inr e
  · rcases hsh with ⟨g1, g2, g3⟩ | ⟨I, g1, g2, g3, g4, g5⟩
    · subst g2 g3
      refine .inl ⟨g1, by simp, ?_⟩
      have : SA = [] := List.length_eq_zero_iff.1 hSA
      have : SC = [] := List.length_eq_zero_iff.1 hCl
      simp [*]
    · refine .inr ⟨I, g1, g2, g3, g4, by simp; omega, fun N hN => ?_⟩
      have : N = L' := by simpa using hN
      subst this; exact g5
  · intro t ht
    refine h.sk t ?_
    rw [hss]
    rcases List.mem_append.1 ht with e | e <;> simp [e]
  · intro j t N ht hN e he
    rw [sI] at ht; rw [lI] at hN
    by_cases c : j < A.length
    · rw [if_pos c] at ht hN
      exact h.sl j t N ht hN e he
    · rw [if_neg c] at ht hN
      by_cases c2 : j = A.length
      · rw [if_pos c2] at hN
        have : L' = N := Option.some.inj hN
        subst this
        rcases mem2 e he with g | g
        · exact h.below? ht hLat (by omega) e g
        · exact h.below? ht hMat (by omega) e g
      · rw [if_neg c2] at hN
        exact h.sl (j + 1) t N ht hN e he
  · intro j t N ht hN e he
    rw [sI] at ht; rw [lI] at hN
    by_cases c : j + 1 < A.length
    · rw [if_pos (by omega)] at ht
      rw [if_pos c] at hN
      exact h.sr j t N ht hN e he
    · rw [if_neg c] at hN
      by_cases c2 : j + 1 = A.length
      · rw [if_pos (by omega)] at ht
        rw [if_pos c2] at hN
        have : L' = N := Option.some.inj hN
        subst this
        rcases mem2 e he with g | g
        · exact h.above? ht hLat (by omega) hne e g
        · exact h.above? ht hMat (by omega) hne e g
      · rw [if_neg c2] at hN
        rw [if_neg (by omega)] at ht
        exact h.sr (j + 1) t N ht hN e he
  · have hsa := h.sa
    unfold Asc at hsa ⊢
    rw [hss] at hsa
    exact hsa.sublist ((List.Sublist.refl SA).append (List.sublist_cons_self s SC))

/-- L and M have become L1 and R -/
theorem Core.resplit {A : List Lf} {L M L1 R : Lf} {C : List Lf} {SA SC : List Sl} {s s' : Sl} {I : Inn}
    (h : Core f K B w eb T) (hls : T.ls = A ++ L :: M :: C) (hss : T.seps = SA ++ s :: SC) (hSA : SA.length = A.length)
    (hL1 : L1.At w') (hR : R.At w') (hsub : List.Sublist (L1.es ++ R.es) (L.es ++ M.es)) (hown1 : ∀ k, L1.own k → L.own k ∨ M.own k ∨ w.heap.size ≤ k) (hown2 : ∀ k, R.own k → w.heap.size ≤ k) (hd : ∀ k, L1.own k → R.own k → False)
    (hfr : Fr (fun k => L.own k ∨ M.own k ∨ k = eb ∨ ∃ I, T.inn = some I ∧ I.own k) w w') (hI : T.inn = some I) (hIA : I.At w' (SA ++ s' :: SC) ((A ++ L1 :: R :: C).map Lf.nb)) (h1 : 128 ≤ L1.es.length) (h2 : 128 ≤ R.es.length) (hs' : s' = (R.es[0]'(by omega)).1) :
    Core f K B w' eb ⟨A ++ L1 :: R :: C, some I, SA ++ s' :: SC⟩ ∧ (∀ k, Tr.own ⟨A ++ L1 :: R :: C, some I, SA ++ s' :: SC⟩ eb k → T.own eb k ∨ w.heap.size ≤ k) := by
  have hls1 : T.ls = A ++ [L, M] ++ C := by rw [hls]; simp
  have e1 : A ++ L1 :: R :: C = A ++ [L1, R] ++ C := by simp
  have hne : T.ls ≠ [] := by rw [hls]; simp
  have hl := h.seps_len hne
  have hCl : SC.length = C.length := by rw [hls, hss] at hl; simp at hl; omega
  have hLat : T.ls[A.length]? = some L := by rw [hls, mid?, if_neg (by omega), if_pos rfl]
  have hMat : T.ls[A.length + 1]? = some M := by rw [hls, two? A L M L C, if_neg (by omega), if_neg (by omega), if_pos rfl]
  have hLm : L ∈ T.ls := by rw [hls]; simp
  have hMm : M ∈ T.ls := by rw [hls]; simp
  have sI : ∀ j, (SA ++ s' :: SC)[j]? = if j = A.length then some s' else T.seps[j]? := fun j => by
    by_cases c : j = A.length
    · rw [if_pos c, mid?, if_neg (by omega), if_pos (by omega)]
    · rw [if_neg c, hss]; exact repl? SA s' s SC j (by omega)
  have lI : ∀ j, (A ++ [L1, R] ++ C)[j]? = if j = A.length then some L1 else if j = A.length + 1 then some R else T.ls[j]? := fun j => by
    rw [← e1, two? A L1 R L C, hls, two? A L M L C]
    by_cases c : j < A.length
    · rw [if_pos c, if_pos c, if_neg (by omega), if_neg (by omega)]
    · rw [if_neg c, if_neg c]
      by_cases c2 : j = A.length
      · rw [if_pos c2, if_pos c2]
      · rw [if_neg c2, if_neg c2]
        by_cases c3 : j = A.length + 1
        · rw [if_pos c3, if_pos c3]
        · rw [if_neg c3, if_neg c3, if_neg c2, if_neg c3]
  have hasc0 : AscE f (L.es ++ M.es) := by
    refine AscE.sub h.asc ?_
    unfold Tr.es
    rw [hls1, List.flatMap_append, List.flatMap_append]
    refine List.Sublist.trans ?_ (List.sublist_append_left _ _)
    refine List.Sublist.trans ?_ (List.sublist_append_right _ _)
    simp
  have hasc : AscE f (L1.es ++ R.es) := AscE.sub hasc0 hsub
  have hasc' := hasc
  unfold AscE at hasc'
  rw [List.pairwise_append] at hasc'
  have hR0 : R.es[0]'(by omega) ∈ R.es := List.getElem_mem _
  have kl : ∀ e ∈ L1.es, Pl.lt (f e.1) (f s') := fun e he => by rw [hs']; exact hasc'.2.2 e he _ hR0
  have kr : ∀ e ∈ R.es, ¬ Pl.lt (f e.1) (f s') := fun e he => by
    rw [hs']
    obtain ⟨j, hj, rfl⟩ := List.mem_iff_getElem.1 he
    by_cases hj0 : j = 0
    · subst hj0; exact Pl.lt_irrefl _
    · exact Pl.not_lt_of_lt (List.pairwise_iff_getElem.1 hasc'.2.1 0 j (by omega) hj (by omega))
  have mem1 : ∀ e ∈ L1.es, e ∈ L.es ∨ e ∈ M.es := fun e he => List.mem_append.1 (hsub.subset (List.mem_append.2 (.inl he)))
  have mem2 : ∀ e ∈ R.es, e ∈ L.es ∨ e ∈ M.es := fun e he => List.mem_append.1 (hsub.subset (List.mem_append.2 (.inr he)))
  have up : ∀ j t, T.seps[j]? = some t → A.length < j → ∀ e, e ∈ L.es ∨ e ∈ M.es → Pl.lt (f e.1) (f t) := fun j t ht hj e he => by
    rcases he with g | g
    · exact h.below? ht hLat (by omega) e g
    · exact h.below? ht hMat (by omega) e g
  have dn : ∀ j t, T.seps[j]? = some t → j < A.length → ∀ e, e ∈ L.es ∨ e ∈ M.es → ¬ Pl.lt (f e.1) (f t) := fun j t ht hj e he => by
    rcases he with g | g
    · exact h.above? ht hLat (by omega) hne e g
    · exact h.above? ht hMat (by omega) hne e g
  have hL0 : L1.es[0]'(by omega) ∈ L1.es := List.getElem_mem _
  have sAt : ∀ j (hj : j < SA.length), T.seps[j]? = some SA[j] := fun j hj => by rw [hss, List.getElem?_append_left hj, List.getElem?_eq_getElem hj]
  have sCt : ∀ j (hj : j < SC.length), T.seps[A.length + 1 + j]? = some SC[j] := fun j hj => by
    rw [hss, List.getElem?_append_right (by omega), show A.length + 1 + j - SA.length = j + 1 from by omega, List.getElem?_cons_succ, List.getElem?_eq_getElem hj]
  rw [e1] at hIA ⊢
  refine h.cut hls1 ?_ (by simpa using hsub) (fun N hN k hk => ?_) ?_ (hfr.mono (fun k _ hk => ?_)) ?_ ?_ ?_ ?_ ?_
  · intro N hN
    rcases List.mem_cons.1 hN with e | e
    · subst e; exact hL1
    · have : N = R := by simpa using e
      subst this; exact hR
  · rcases List.mem_cons.1 hN with e | e
    · subst e
      rcases hown1 k hk with e | e | e
      · exact .inl ⟨L, by simp, e⟩
      · exact .inl ⟨M, by simp, e⟩
      · exact .inr e
    · have : N = R := by simpa using e
      subst this; exact .inr (hown2 k hk)
  · simp only [List.pairwise_cons, List.not_mem_nil, false_implies, implies_true, List.Pairwise.nil, and_true, List.mem_singleton, forall_eq]
    exact fun k a b => hd k a b
  · rcases hk with e | e | e
    · exact .inl ⟨L, by simp, e⟩
    · exact .inl ⟨M, by simp, e⟩
    · exact .inr e
  · refine .inr ⟨I, hI, rfl, hIA, by simp; omega, by simp; omega, fun N hN => ?_⟩
    rcases List.mem_cons.1 hN with e | e
    · subst e; exact h1
    · have : N = R := by simpa using e
      subst this; exact h2
  · intro t ht
    rcases List.mem_append.1 ht with e | e
    · exact h.sk t (by rw [hss]; simp [e])
    · rcases List.mem_cons.1 e with e | e
      · subst e
        refine ⟨?_, fun h0 => ?_⟩
        · rw [hs']
          rcases mem2 _ hR0 with g | g
          · exact h.kk L hLm _ g
          · exact h.kk M hMm _ g
        · have := kl _ hL0
          rw [h0] at this
          exact Pl.not_lt_nil _ this
      · exact h.sk t (by rw [hss]; simp [e])
  · intro j t N ht hN e he
    rw [sI] at ht; rw [lI] at hN
    by_cases c : j = A.length
    · rw [if_pos c] at ht hN
      have a1 := Option.some.inj ht; have a2 := Option.some.inj hN
      subst a1 a2
      exact kl e he
    · rw [if_neg c] at ht hN
      by_cases c2 : j = A.length + 1
      · rw [if_pos c2] at hN
        have a2 := Option.some.inj hN
        subst a2
        exact up j t ht (by omega) e (mem2 e he)
      · rw [if_neg c2] at hN
        exact h.sl j t N ht hN e he
  · intro j t N ht hN e he
    rw [sI] at ht; rw [lI] at hN
    by_cases c : j = A.length
    · rw [if_pos c] at ht
      rw [if_neg (by omega), if_pos (by omega)] at hN
      have a1 := Option.some.inj ht; have a2 := Option.some.inj hN
      subst a1 a2
      exact kr e he
    · rw [if_neg c] at ht
      by_cases c2 : j + 1 = A.length
      · rw [if_pos c2] at hN
        have a2 := Option.some.inj hN
        subst a2
        exact dn j t ht (by omega) e (mem1 e he)
      · rw [if_neg c2, if_neg (by omega)] at hN
        exact h.sr j t N ht hN e he
  · have hsa := h.sa
    unfold Asc at hsa ⊢
    rw [hss, List.pairwise_append, List.pairwise_cons] at hsa
    rw [List.pairwise_append, List.pairwise_cons]
    refine ⟨hsa.1, ⟨fun t ht => ?_, hsa.2.1.2⟩, fun t ht u hu => ?_⟩
    · obtain ⟨j, hj, rfl⟩ := List.mem_iff_getElem.1 ht
      rw [hs']
      exact up _ _ (sCt j hj) (by omega) _ (mem2 _ hR0)
    · rcases List.mem_cons.1 hu with e | e
      · subst e
        obtain ⟨j, hj, rfl⟩ := List.mem_iff_getElem.1 ht
        exact Pl.lt_of_le_of_lt (dn _ _ (sAt j hj) (by omega) _ (mem1 _ hL0)) (kl _ hL0)
      · exact hsa.2.2 t ht u (by simp [e])
end
end Go.Proofs.Qxb6615626a.BV
