/-
  A key taken out: plain, and what it does to the tree's invariant (V = *Version).
-/
import Derived.Test.Qxb6615626aGet2
import Derived.Test.Qxb6615626aRem
namespace Go.Proofs.Qxb6615626a
set_option linter.unusedVariables false

section
variable {X : Type} (f : Sl → List UInt8)
/-- the entries without the key k -/
def del (k : List UInt8) (es : List (Sl × X)) : List (Sl × X) := es.filter fun e => !(f e.1 == k)
variable {f}

theorem del_sub (k : List UInt8) (es : List (Sl × X)) : List.Sublist (del f k es) es := List.filter_sublist
theorem del_app (k : List UInt8) (a b : List (Sl × X)) : del f k (a ++ b) = del f k a ++ del f k b := List.filter_append ..
theorem del_same {k : List UInt8} {es : List (Sl × X)} (h : ∀ e ∈ es, f e.1 ≠ k) : del f k es = es := List.filter_eq_self.2 fun e he => by
  have := h e he; simp [this]

theorem del_mid {k : List UInt8} {a b c : List (Sl × X)} (ha : ∀ e ∈ a, Pl.lt (f e.1) k) (hc : ∀ e ∈ c, Pl.lt k (f e.1)) : del f k (a ++ b ++ c) = a ++ del f k b ++ c := by
  rw [del_app, del_app, del_same (fun e he => ne_of_lt (ha e he)), del_same (fun e he => (ne_of_lt (hc e he)).symm)]

theorem del_not {k : List UInt8} {es : List (Sl × X)} (ha : AscE f es) (h : fnd f (es.map fun e => e.1) k = false) : del f k es = es := by
  have hlb := lb_LB ha.keys k
  refine del_same fun e he hk => ?_
  obtain ⟨j, hj, rfl⟩ := List.mem_iff_getElem.1 he
  have hj' : j < (es.map fun e => e.1).length := by simpa using hj
  have hge : lb f (es.map fun e => e.1) k ≤ j := by
    by_cases c : j < lb f (es.map fun e => e.1) k
    · have h2 := hlb.below j hj' c
      have : (es.map fun e => e.1)[j] = es[j].1 := by simp
      rw [this, hk] at h2
      exact absurd h2 (Pl.lt_irrefl _)
    · omega
  have hlt : lb f (es.map fun e => e.1) k < (es.map fun e => e.1).length := by omega
  have h3 := hlb.above _ hlt (Nat.le_refl _)
  have h4 := ha.keys.not_lt _ j hj' hge
  have e5 : (es.map fun e => e.1)[j] = es[j].1 := by simp
  rw [e5, hk] at h4
  have e6 : f (es.map fun e => e.1)[lb f (es.map fun e => e.1) k] = k := by
    rcases Pl.lt_or_eq_or_gt (f (es.map fun e => e.1)[lb f (es.map fun e => e.1) k]) k with g | g | g
    · exact absurd g h3
    · exact g
    · exact absurd g h4
  unfold fnd at h
  rw [List.getElem?_eq_getElem hlt, Option.any_some, e6] at h
  simp at h

theorem del_found {k : List UInt8} {es : List (Sl × X)} (ha : AscE f es) (i : Nat) (hi : i < es.length) (hk : f es[i].1 = k) : del f k es = es.take i ++ es.drop (i + 1) := by
  have e : es = es.take i ++ [es[i]] ++ es.drop (i + 1) := by rw [List.append_assoc, List.singleton_append, ← List.drop_eq_getElem_cons hi, List.take_append_drop]
  have hp : AscE f (es.take i ++ [es[i]] ++ es.drop (i + 1)) := by rw [← e]; exact ha
  unfold AscE at hp
  rw [List.pairwise_append, List.pairwise_append] at hp
  have := del_mid (f := f) (k := k) (a := es.take i) (b := [es[i]]) (c := es.drop (i + 1)) (fun x hx => by rw [← hk]; exact hp.1.2.2 x hx _ (by simp)) (fun x hx => by rw [← hk]; exact hp.2.2 es[i] (List.mem_append.2 (.inr (List.mem_singleton.2 rfl))) x hx)
  rw [← e] at this
  rw [this]
  have h0 : del f k [es[i]] = [] := by unfold del; simp [hk]
  rw [h0, List.append_nil]

theorem del_len {k : List UInt8} {es : List (Sl × X)} (ha : AscE f es) : es.length ≤ (del f k es).length + 1 := by
  cases h : fnd f (es.map fun e => e.1) k with
  | false => rw [del_not ha h]; omega
  | true =>
    obtain ⟨hlt, hk⟩ : ∃ h : lb f (es.map fun e => e.1) k < es.length, f es[lb f (es.map fun e => e.1) k].1 = k := by
      unfold fnd at h
      cases hg : (es.map fun e => e.1)[lb f (es.map fun e => e.1) k]? with
      | none => rw [hg] at h; simp at h
      | some s =>
        rw [hg] at h
        obtain ⟨h1, h2⟩ := List.getElem?_eq_some_iff.1 hg
        have h1' : lb f (es.map fun e => e.1) k < es.length := by simpa using h1
        refine ⟨h1', ?_⟩
        have : (es[lb f (es.map fun e => e.1) k]'h1').1 = s := by rw [← h2]; simp
        rw [this]; simpa using h
    rw [del_found ha _ hlt hk]; simp; omega
end
end Go.Proofs.Qxb6615626a

namespace Go.Proofs.Qxb6615626a.BV
open Go.RowKit

theorem AscE.sub {f : Sl → List UInt8} {a b : List (Sl × Option Addr)} (h : AscE f b) (hs : List.Sublist a b) : AscE f a := List.Pairwise.sublist hs h

/-- some leaves X have been replaced by Y, whose entries are some of X's -/
theorem Core.cut {f : Sl → List UInt8} {K : Sl → Prop} {B : Nat} {w w' : World} {eb : Nat} {T : Tr} {A X Y C : List Lf} {inn' : Option Inn} {seps' : List Sl}
    (h : Core f K B w eb T) (hls : T.ls = A ++ X ++ C) (hY : ∀ L ∈ Y, L.At w') (hsub : List.Sublist (Y.flatMap Lf.es) (X.flatMap Lf.es)) (hown : ∀ L ∈ Y, ∀ k, L.own k → (∃ M ∈ X, M.own k) ∨ w.heap.size ≤ k) (hpw : Y.Pairwise fun L M => ∀ k, L.own k → ¬ M.own k)
    (hfr : Fr (fun k => (∃ M ∈ X, M.own k) ∨ k = eb ∨ ∃ I, T.inn = some I ∧ I.own k) w w')
    (hsh : (inn' = none ∧ (A ++ Y ++ C).length ≤ 1 ∧ seps' = []) ∨ ∃ I, T.inn = some I ∧ inn' = some I ∧ I.At w' seps' ((A ++ Y ++ C).map Lf.nb) ∧ 2 ≤ (A ++ Y ++ C).length ∧ seps'.length + 1 = (A ++ Y ++ C).length ∧ ∀ L ∈ Y, 128 ≤ L.es.length)
    (hsk : ∀ s ∈ seps', K s ∧ f s ≠ [])
    (hsl : ∀ (j : Nat) (s : Sl) (L : Lf), seps'[j]? = some s → (A ++ Y ++ C)[j]? = some L → ∀ e ∈ L.es, Pl.lt (f e.1) (f s))
    (hsr : ∀ (j : Nat) (s : Sl) (L : Lf), seps'[j]? = some s → (A ++ Y ++ C)[j + 1]? = some L → ∀ e ∈ L.es, ¬ Pl.lt (f e.1) (f s))
    (hsa : Asc f seps') :
    Core f K B w' eb ⟨A ++ Y ++ C, inn', seps'⟩ ∧ (∀ k, Tr.own ⟨A ++ Y ++ C, inn', seps'⟩ eb k → T.own eb k ∨ w.heap.size ≤ k) := by
  have hXm : ∀ M ∈ X, M ∈ T.ls := fun M hM => by rw [hls]; simp [hM]
  have hACm : ∀ M, M ∈ A ∨ M ∈ C → M ∈ T.ls := fun M hM => by rw [hls]; rcases hM with hM | hM <;> simp [hM]
  have hpw0 := h.pw
  rw [hls, List.pairwise_append, List.pairwise_append] at hpw0
  obtain ⟨⟨pA, pX, pAX⟩, pC, pAC⟩ := hpw0
  have hlt : ∀ M ∈ T.ls, ∀ k, M.own k → k < w.heap.size := fun M hM => (h.lf M hM).lt
  have aX : ∀ M, M ∈ A ∨ M ∈ C → ∀ k, M.own k → ¬ ∃ N ∈ X, N.own k := by
    rintro M (hM | hM) k hk ⟨N, hN, hk'⟩
    · exact pAX M hM N hN k hk hk'
    · exact pAC N (by simp [hN]) M hM k hk' hk
  have aI : ∀ M, M ∈ T.ls → ∀ k, M.own k → ¬ ∃ I, T.inn = some I ∧ I.own k := by
    rintro M hM k hk ⟨I, hI1, hI2⟩
    rcases h.sh with ⟨g1, _⟩ | ⟨I0, g1, _, _, _, _, g6, _⟩
    · rw [g1] at hI1; cases hI1
    · rw [g1] at hI1; cases hI1; exact g6 M hM k hk hI2
  have keepAC : ∀ M, M ∈ A ∨ M ∈ C → M.At w' := fun M hM => (h.lf M (hACm M hM)).fr hfr (fun k hk hF => by
    rcases hF with hF | hF | hF
    · exact aX M hM k hk hF
    · subst hF; exact h.ne M (hACm M hM) hk
    · exact aI M (hACm M hM) k hk hF)
  have apY : ∀ M, M ∈ A ∨ M ∈ C → ∀ N ∈ Y, ∀ k, M.own k → ¬ N.own k := fun M hM N hN k hk hk' => by
    rcases hown N hN k hk' with e | e
    · exact aX M hM k hk e
    · have := hlt M (hACm M hM) k hk; omega
  have mem' : ∀ M, M ∈ A ++ Y ++ C → M ∈ Y ∨ (M ∈ A ∨ M ∈ C) := fun M hM => by
    rcases List.mem_append.1 hM with e | e
    · rcases List.mem_append.1 e with e | e
      · exact .inr (.inl e)
      · exact .inl e
    · exact .inr (.inr e)
  have hownT : ∀ k, Tr.own ⟨A ++ Y ++ C, inn', seps'⟩ eb k → T.own eb k ∨ w.heap.size ≤ k := by
    rintro k (e | ⟨M, hM, hk⟩ | ⟨I, hI1, hI2⟩)
    · exact .inl (.inl e)
    · rcases mem' M hM with hM | hM
      · rcases hown M hM k hk with ⟨N, hN, e⟩ | e
        · exact .inl (.inr (.inl ⟨N, hXm N hN, e⟩))
        · exact .inr e
      · exact .inl (.inr (.inl ⟨M, hACm M hM, hk⟩))
    · rcases hsh with ⟨g, _⟩ | ⟨J, g1, g2, _⟩
      · have : inn' = some I := hI1
        rw [g] at this; cases this
      · have : inn' = some I := hI1
        rw [g2] at this; cases this
        exact .inl (.inr (.inr ⟨_, g1, hI2⟩))
  have hBs : B ≤ w.heap.size := Nat.le_trans (h.low eb (.inl rfl)) (Nat.le_of_lt h.elt)
  have hsubT : List.Sublist (Tr.es ⟨A ++ Y ++ C, inn', seps'⟩) T.es := by
    unfold Tr.es
    show List.Sublist ((A ++ Y ++ C).flatMap Lf.es) (T.ls.flatMap Lf.es)
    rw [hls, List.flatMap_append, List.flatMap_append, List.flatMap_append, List.flatMap_append]
    exact ((List.Sublist.refl _).append hsub).append (List.Sublist.refl _)
  refine ⟨⟨?_, ?_, ?_, ?_, ?_, ?_, ?_, hsk, AscE.sub h.asc hsubT, hsl, hsr, hsa⟩, hownT⟩
  · intro M hM
    rcases mem' M hM with hM | hM
    · exact hY M hM
    · exact keepAC M hM
  · rcases hsh with g | ⟨I, g1, g2, g3, g4, g5, g6⟩
    · exact .inl g
    · right
      obtain ⟨h128, hdis, hne⟩ : (∀ L ∈ T.ls, 128 ≤ L.es.length) ∧ (∀ L ∈ T.ls, ∀ k, L.own k → ¬ I.own k) ∧ ¬ I.own eb := by
        rcases h.sh with ⟨e, _⟩ | ⟨J, h1, h2, h3, h4, h5, h6, h7⟩
        · rw [e] at g1; cases g1
        · rw [h1] at g1; cases g1; exact ⟨h5, h6, h7⟩
      have hIlt : ∀ k, I.own k → k < w.heap.size := by
        rcases h.sh with ⟨e, _⟩ | ⟨J, h1, h2, _⟩
        · rw [e] at g1; cases g1
        · rw [h1] at g1; cases g1; exact h2.lt
      refine ⟨I, g2, g3, g4, g5, ?_, ?_, hne⟩
      · intro M hM
        rcases mem' M hM with hM | hM
        · exact g6 M hM
        · exact h128 M (hACm M hM)
      · intro M hM k hk hI
        rcases mem' M hM with hM | hM
        · rcases hown M hM k hk with ⟨N, hN, e⟩ | e
          · exact hdis N (hXm N hN) k e hI
          · have := hIlt k hI; omega
        · exact hdis M (hACm M hM) k hk hI
  · show (A ++ Y ++ C).Pairwise _
    rw [List.pairwise_append, List.pairwise_append]
    refine ⟨⟨pA, hpw, fun M hM N hN => apY M (.inl hM) N hN⟩, pC, fun M hM N hN k hk hk' => ?_⟩
    rcases List.mem_append.1 hM with e | e
    · exact pAC M (by simp [e]) N hN k hk hk'
    · exact apY N (.inr hN) M e k hk' hk
  · intro M hM hk
    rcases mem' M hM with hM | hM
    · rcases hown M hM eb hk with ⟨N, hN, e⟩ | e
      · exact h.ne N (hXm N hN) e
      · have := h.elt; omega
    · exact h.ne M (hACm M hM) hk
  · intro k hk
    rcases hownT k hk with e | e
    · exact h.low k e
    · omega
  · exact Nat.lt_of_lt_of_le h.elt hfr.size
  · intro M hM e he
    rcases mem' M hM with hM | hM
    · have : e ∈ X.flatMap Lf.es := hsub.subset (List.mem_flatMap.2 ⟨M, hM, he⟩)
      obtain ⟨N, hN, he'⟩ := List.mem_flatMap.1 this
      exact h.kk N (hXm N hN) e he'
    · exact h.kk M (hACm M hM) e he

/-- entries taken out of one leaf -/
theorem Core.less {f : Sl → List UInt8} {K : Sl → Prop} {B : Nat} {w w' : World} {eb : Nat} {T : Tr} {A : List Lf} {L L' : Lf} {C : List Lf}
    (h : Core f K B w eb T) (hls : T.ls = A ++ L :: C) (hL : L'.At w') (hnb : L'.nb = L.nb) (hsub : List.Sublist L'.es L.es) (hown : ∀ k, L'.own k → L.own k ∨ w.heap.size ≤ k)
    (hfr : Fr (fun k => L.own k ∨ k = eb) w w') (hbig : T.inn = none ∨ 128 ≤ L'.es.length) :
    Core f K B w' eb { T with ls := A ++ L' :: C } ∧ (∀ k, Tr.own { T with ls := A ++ L' :: C } eb k → T.own eb k ∨ w.heap.size ≤ k) := by
  have hls1 : T.ls = A ++ [L] ++ C := by rw [hls]; simp
  have e1 : A ++ L' :: C = A ++ [L'] ++ C := by simp
  have hLm : L ∈ T.ls := by rw [hls]; simp
  rw [e1]
  refine h.cut hls1 (by simpa using hL) (by simpa using hsub) (fun M hM k hk => ?_) (List.pairwise_singleton _ _) (hfr.mono (fun k _ hk => hk.elim (fun e => .inl ⟨L, by simp, e⟩) (fun e => .inr (.inl e)))) ?_ h.sk ?_ ?_ h.sa
  · have : M = L' := by simpa using hM
    subst this
    exact (hown k hk).imp (fun e => ⟨L, by simp, e⟩) id
  · have hlen : (A ++ [L'] ++ C).length = T.ls.length := by rw [hls]; simp
    have hnbs : (A ++ [L'] ++ C).map Lf.nb = T.ls.map Lf.nb := by rw [hls]; simp [hnb]
    rcases h.sh with ⟨g1, g2, g3⟩ | ⟨I, h1, h2, h3, h4, h5, h6, h7⟩
    · exact .inl ⟨g1, by omega, g3⟩
    · refine .inr ⟨I, h1, h1, ?_, by omega, by omega, fun M hM => ?_⟩
      · rw [hnbs]
        exact h2.fr hfr (fun k hk hF => by
          rcases hF with hF | hF
          · exact h6 L hLm k hF hk
          · subst hF; exact h7 hk)
      · have : M = L' := by simpa using hM
        subst this
        rcases hbig with e | e
        · rw [h1] at e; cases e
        · exact e
  · intro j s M hs hM e he
    rw [← e1] at hM
    by_cases hj : j = A.length
    · subst hj
      rw [mid?, if_neg (by omega), if_pos rfl] at hM
      have hLM : L' = M := Option.some.inj hM
      subst hLM
      exact h.sl _ s L hs (by rw [hls, mid?, if_neg (by omega), if_pos rfl]) e (hsub.subset he)
    · exact h.sl j s M hs (by rw [hls, repl? A L L' C j hj]; exact hM) e he
  · intro j s M hs hM e he
    rw [← e1] at hM
    by_cases hj : j + 1 = A.length
    · rw [mid?, if_neg (by omega), if_pos hj] at hM
      have hLM : L' = M := Option.some.inj hM
      subst hLM
      exact h.sr _ s L hs (by rw [hls, mid?, if_neg (by omega), if_pos hj]) e (hsub.subset he)
    · exact h.sr j s M hs (by rw [hls, repl? A L L' C (j + 1) hj]; exact hM) e he
end Go.Proofs.Qxb6615626a.BV
