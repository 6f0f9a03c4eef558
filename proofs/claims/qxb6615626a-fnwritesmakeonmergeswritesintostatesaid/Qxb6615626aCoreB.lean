/-
  The tree's invariant (V by the namespace), and what a change of one leaf does to it.
-/
import Derived.Test.Qxb6615626aTreeB
namespace Go.Proofs.Qxb6615626a.BV
open Go.RowKit
set_option linter.unusedVariables false

/-- the leaves in order; the inner root, if there is one; its separators -/
structure Tr where
  ls : List Lf
  inn : Option Inn
  seps : List Sl

def Tr.es (T : Tr) : List (Sl × Option Addr) := T.ls.flatMap Lf.es
def Tr.own (T : Tr) (eb k : Nat) : Prop := k = eb ∨ (∃ L ∈ T.ls, L.own k) ∨ (∃ I, T.inn = some I ∧ I.own k)
def Tr.root (T : Tr) : Option Addr := match T.inn with
  | some I => some ⟨I.rb, 0, none⟩
  | none => match T.ls with
    | [] => none
    | L :: _ => some ⟨L.nb, 0, none⟩

/-- what is known of the keys in play: they read as f says, and lie below B -/
def KOK (f : Sl → List UInt8) (K : Sl → Prop) (B : Nat) (w : World) : Prop := ∀ s, K s → Byt w s (f s) ∧ s.blk < B

theorem KOK.below {f : Sl → List UInt8} {K : Sl → Prop} {B : Nat} {w w' : World} (h : KOK f K B w) (hb : Below B w w') : KOK f K B w' := fun s hs => ⟨(h s hs).1.below hb (h s hs).2, (h s hs).2⟩

structure Core (f : Sl → List UInt8) (K : Sl → Prop) (B : Nat) (w : World) (eb : Nat) (T : Tr) : Prop where
  lf : ∀ L ∈ T.ls, L.At w
  sh : (T.inn = none ∧ T.ls.length ≤ 1 ∧ T.seps = []) ∨ (∃ I, T.inn = some I ∧ I.At w T.seps (T.ls.map Lf.nb) ∧ 2 ≤ T.ls.length ∧ T.seps.length + 1 = T.ls.length ∧ (∀ L ∈ T.ls, 128 ≤ L.es.length) ∧ (∀ L ∈ T.ls, ∀ k, L.own k → ¬ I.own k) ∧ ¬ I.own eb)
  pw : T.ls.Pairwise fun L M => ∀ k, L.own k → ¬ M.own k
  ne : ∀ L ∈ T.ls, ¬ L.own eb
  low : ∀ k, T.own eb k → B ≤ k
  elt : eb < w.heap.size
  kk : ∀ L ∈ T.ls, ∀ e ∈ L.es, K e.1
  sk : ∀ s ∈ T.seps, K s ∧ f s ≠ []
  asc : AscE f T.es
  sl : ∀ (j : Nat) (s : Sl) (L : Lf), T.seps[j]? = some s → T.ls[j]? = some L → ∀ e ∈ L.es, Pl.lt (f e.1) (f s)
  sr : ∀ (j : Nat) (s : Sl) (L : Lf), T.seps[j]? = some s → T.ls[j + 1]? = some L → ∀ e ∈ L.es, ¬ Pl.lt (f e.1) (f s)
  sa : Asc f T.seps

theorem mid? {α : Type} (A : List α) (x : α) (C : List α) (j : Nat) : (A ++ x :: C)[j]? = if j < A.length then A[j]? else if j = A.length then some x else C[j - A.length - 1]? := by
  by_cases h : j < A.length
  · rw [if_pos h, List.getElem?_append_left h]
  · rw [if_neg h, List.getElem?_append_right (by omega)]
    by_cases e : j = A.length
    · rw [if_pos e, e, Nat.sub_self]; rfl
    · rw [if_neg e]
      have : j - A.length = (j - A.length - 1) + 1 := by omega
      rw [this, List.getElem?_cons_succ]; rfl

theorem repl? {α : Type} (A : List α) (x y : α) (C : List α) (j : Nat) (h : j ≠ A.length) : (A ++ x :: C)[j]? = (A ++ y :: C)[j]? := by
  rw [mid?, mid?, if_neg h, if_neg h]

/-- the place of a key among the leaves: leaf number |A| -/
structure Place (f : Sl → List UInt8) (T : Tr) (k : List UInt8) (A : List Lf) (L : Lf) (C : List Lf) : Prop where
  ls : T.ls = A ++ L :: C
  lo : ∀ (j : Nat) (s : Sl), T.seps[j]? = some s → j < A.length → ¬ Pl.lt k (f s)
  hi : ∀ (j : Nat) (s : Sl), T.seps[j]? = some s → A.length ≤ j → Pl.lt k (f s)

theorem Core.seps_len {f : Sl → List UInt8} {K : Sl → Prop} {B : Nat} {w : World} {eb : Nat} {T : Tr} (h : Core f K B w eb T) (hne : T.ls ≠ []) : T.seps.length + 1 = T.ls.length := by
  rcases h.sh with ⟨_, h1, h2⟩ | ⟨I, _, _, _, h3, _⟩
  · rw [h2]; have : 0 < T.ls.length := List.length_pos_iff.2 hne; simp; omega
  · exact h3

theorem Place.below {f : Sl → List UInt8} {K : Sl → Prop} {B : Nat} {w : World} {eb : Nat} {T : Tr} {k : List UInt8} {A : List Lf} {L : Lf} {C : List Lf} (P : Place f T k A L C) (h : Core f K B w eb T) :
    ∀ e ∈ A.flatMap Lf.es, Pl.lt (f e.1) k := by
  intro e he
  obtain ⟨M, hM, he⟩ := List.mem_flatMap.1 he
  obtain ⟨j, hj, rfl⟩ := List.mem_iff_getElem.1 hM
  have hls : T.ls[j]? = some A[j] := by rw [P.ls, List.getElem?_append_left hj, List.getElem?_eq_getElem hj]
  have hl := h.seps_len (by rw [P.ls]; simp)
  have hjs : j < T.seps.length := by have : T.ls.length = A.length + (C.length + 1) := by rw [P.ls]; simp
                                     omega
  have hs := List.getElem?_eq_getElem hjs
  exact Pl.lt_of_lt_of_le (h.sl j _ _ hs hls e he) (P.lo j _ hs hj)

theorem Place.above {f : Sl → List UInt8} {K : Sl → Prop} {B : Nat} {w : World} {eb : Nat} {T : Tr} {k : List UInt8} {A : List Lf} {L : Lf} {C : List Lf} (P : Place f T k A L C) (h : Core f K B w eb T) :
    ∀ e ∈ C.flatMap Lf.es, Pl.lt k (f e.1) := by
  intro e he
  obtain ⟨M, hM, he⟩ := List.mem_flatMap.1 he
  obtain ⟨j, hj, rfl⟩ := List.mem_iff_getElem.1 hM
  have hls : T.ls[A.length + j + 1]? = some C[j] := by
    rw [P.ls, mid?, if_neg (by omega), if_neg (by omega)]
    have : A.length + j + 1 - A.length - 1 = j := by omega
    rw [this, List.getElem?_eq_getElem hj]
  have hl := h.seps_len (by rw [P.ls]; simp)
  have hjs : A.length + j < T.seps.length := by
    have : T.ls.length = A.length + (C.length + 1) := by rw [P.ls]; simp
    omega
  have hs := List.getElem?_eq_getElem hjs
  exact Pl.lt_of_lt_of_le (P.hi _ _ hs (by omega)) (h.sr _ _ _ hs hls e he)

theorem Place.ins {f : Sl → List UInt8} {K : Sl → Prop} {B : Nat} {w : World} {eb : Nat} {T : Tr} {key : Sl} {A : List Lf} {L : Lf} {C : List Lf} (P : Place f T (f key) A L C) (h : Core f K B w eb T) (x : Option Addr) :
    A.flatMap Lf.es ++ Qxb6615626a.ins f key x L.es ++ C.flatMap Lf.es = Qxb6615626a.ins f key x T.es := by
  unfold Tr.es
  rw [P.ls, List.flatMap_append, List.flatMap_cons, ← List.append_assoc]
  exact (ins_mid key x _ _ _ (P.below h) (P.above h)).symm

/-- a leaf has been changed in its place -/
theorem Core.repl {f : Sl → List UInt8} {K : Sl → Prop} {B : Nat} {w w' : World} {eb : Nat} {T : Tr} {key : Sl} {A : List Lf} {L L' : Lf} {C : List Lf} {x : Option Addr}
    (h : Core f K B w eb T) (P : Place f T (f key) A L C) (hK : K key) (hL : L'.At w') (hnb : L'.nb = L.nb) (hes : L'.es = Qxb6615626a.ins f key x L.es)
    (hfr : Fr (fun k => L.own k ∨ k = eb) w w') (hown : ∀ k, L'.own k → L.own k ∨ w.heap.size ≤ k) :
    Core f K B w' eb { T with ls := A ++ L' :: C } ∧ Tr.es { T with ls := A ++ L' :: C } = Qxb6615626a.ins f key x T.es ∧ (∀ k, Tr.own { T with ls := A ++ L' :: C } eb k → T.own eb k ∨ w.heap.size ≤ k) := by
  have hLm : L ∈ T.ls := by rw [P.ls]; simp
  have hAm : ∀ M ∈ A, M ∈ T.ls := fun M hM => by rw [P.ls]; simp [hM]
  have hCm : ∀ M ∈ C, M ∈ T.ls := fun M hM => by rw [P.ls]; simp [hM]
  have hpw := h.pw
  rw [P.ls, List.pairwise_append, List.pairwise_cons] at hpw
  obtain ⟨pA, ⟨pL, pC⟩, pAC⟩ := hpw
  have hlt : ∀ M ∈ T.ls, ∀ k, M.own k → k < w.heap.size := fun M hM => (h.lf M hM).lt
  have aL : ∀ M ∈ A, ∀ k, M.own k → ¬ L.own k := fun M hM => pAC M hM L (by simp)
  have keepA : ∀ M, M ∈ A ∨ M ∈ C → M.At w' := fun M hM => (h.lf M (hM.elim (hAm M) (hCm M))).fr hfr (fun k hk hF => by
    rcases hF with hF | hF
    · rcases hM with hM | hM
      · exact aL M hM k hk hF
      · exact pL M hM k hF hk
    · subst hF; exact h.ne M (hM.elim (hAm M) (hCm M)) hk)
  have apL' : ∀ M, M ∈ A ∨ M ∈ C → ∀ k, M.own k → ¬ L'.own k := fun M hM k hk hk' => by
    rcases hown k hk' with e | e
    · rcases hM with hM | hM
      · exact aL M hM k hk e
      · exact pL M hM k e hk
    · have := hlt M (hM.elim (hAm M) (hCm M)) k hk; omega
  have mem' : ∀ M, M ∈ A ++ L' :: C → M = L' ∨ (M ∈ A ∨ M ∈ C) := fun M hM => by
    rcases List.mem_append.1 hM with e | e
    · exact .inr (.inl e)
    · rcases List.mem_cons.1 e with e | e
      · exact .inl e
      · exact .inr (.inr e)
  have hes' : Tr.es { T with ls := A ++ L' :: C } = Qxb6615626a.ins f key x T.es := by
    rw [← P.ins h x]; unfold Tr.es
    rw [List.flatMap_append, List.flatMap_cons, ← List.append_assoc, hes]
  have hownT : ∀ k, Tr.own { T with ls := A ++ L' :: C } eb k → T.own eb k ∨ w.heap.size ≤ k := by
    rintro k (e | ⟨M, hM, hk⟩ | e)
    · exact .inl (.inl e)
    · rcases mem' M hM with rfl | hM
      · exact (hown k hk).imp (fun e => .inr (.inl ⟨L, hLm, e⟩)) id
      · exact .inl (.inr (.inl ⟨M, hM.elim (hAm M) (hCm M), hk⟩))
    · exact .inl (.inr (.inr e))
  have hBs : B ≤ w.heap.size := Nat.le_trans (h.low eb (.inl rfl)) (Nat.le_of_lt h.elt)
  refine ⟨⟨?_, ?_, ?_, ?_, ?_, ?_, ?_, h.sk, ?_, ?_, ?_, h.sa⟩, hes', hownT⟩
  · intro M hM
    rcases mem' M hM with rfl | hM
    · exact hL
    · exact keepA M hM
  · rcases h.sh with ⟨h1, h2, h3⟩ | ⟨I, h1, h2, h3, h4, h5, h6, h7⟩
    · left; refine ⟨h1, ?_, h3⟩
      have : T.ls.length = (A ++ L' :: C).length := by rw [P.ls]; simp
      show (A ++ L' :: C).length ≤ 1
      omega
    · right
      have hlen : (A ++ L' :: C).length = T.ls.length := by rw [P.ls]; simp
      have hnbs : (A ++ L' :: C).map Lf.nb = T.ls.map Lf.nb := by rw [P.ls]; simp [hnb]
      refine ⟨I, h1, ?_, by show 2 ≤ (A ++ L' :: C).length; omega, by show T.seps.length + 1 = (A ++ L' :: C).length; omega, ?_, ?_, h7⟩
      · show I.At w' T.seps ((A ++ L' :: C).map Lf.nb)
        rw [hnbs]
        exact h2.fr hfr (fun k hk hF => by
          rcases hF with hF | hF
          · exact h6 L hLm k hF hk
          · subst hF; exact h7 hk)
      · intro M hM
        rcases mem' M hM with rfl | hM
        · have := (length_ins (f := f) key x L.es).1; have := h5 L hLm; rw [hes]; omega
        · exact h5 M (hM.elim (hAm M) (hCm M))
      · intro M hM k hk hI
        rcases mem' M hM with rfl | hM
        · rcases hown k hk with e | e
          · exact h6 L hLm k e hI
          · have := h2.lt k hI; omega
        · exact h6 M (hM.elim (hAm M) (hCm M)) k hk hI
  · show (A ++ L' :: C).Pairwise _
    rw [List.pairwise_append, List.pairwise_cons]
    refine ⟨pA, ⟨fun M hM k hk hk' => apL' M (.inr hM) k hk' hk, pC⟩, fun M hM N hN k hk => ?_⟩
    rcases List.mem_cons.1 hN with rfl | hN
    · exact apL' M (.inl hM) k hk
    · exact pAC M hM N (by simp [hN]) k hk
  · intro M hM hk
    rcases mem' M hM with rfl | hM
    · rcases hown eb hk with e | e
      · exact h.ne L hLm e
      · have := h.elt; omega
    · exact h.ne M (hM.elim (hAm M) (hCm M)) hk
  · intro k hk
    rcases hownT k hk with e | e
    · exact h.low k e
    · omega
  · exact Nat.lt_of_lt_of_le h.elt hfr.size
  · intro M hM e he
    rcases mem' M hM with rfl | hM
    · rw [hes] at he
      rcases key_ins key x L.es e he with e1 | ⟨e', e1, e2⟩
      · rw [e1]; exact hK
      · rw [e2]; exact h.kk L hLm e' e1
    · exact h.kk M (hM.elim (hAm M) (hCm M)) e he
  · rw [hes']; exact h.asc.ins
  · intro j s M hs hM e he
    by_cases hj : j = A.length
    · subst hj
      have hM' : (A ++ L' :: C)[A.length]? = some M := hM
      rw [mid?, if_neg (by omega), if_pos rfl] at hM'
      have hLM : L' = M := Option.some.inj hM'
      subst hLM
      rw [hes] at he
      rcases key_ins key x L.es e he with e1 | ⟨e', e1, e2⟩
      · rw [e1]; exact P.hi _ s hs (Nat.le_refl _)
      · rw [e2]; exact h.sl _ s L hs (by rw [P.ls, mid?, if_neg (by omega), if_pos rfl]) e' e1
    · refine h.sl j s M hs ?_ e he
      rw [P.ls, repl? A L L' C j hj]; exact hM
  · intro j s M hs hM e he
    by_cases hj : j + 1 = A.length
    · have hM' : (A ++ L' :: C)[j + 1]? = some M := hM
      rw [mid?, if_neg (by omega), if_pos hj] at hM'
      have hLM : L' = M := Option.some.inj hM'
      subst hLM
      rw [hes] at he
      rcases key_ins key x L.es e he with e1 | ⟨e', e1, e2⟩
      · rw [e1]; exact P.lo _ s hs (by omega)
      · rw [e2]; exact h.sr _ s L hs (by rw [P.ls, mid?, if_neg (by omega), if_pos hj]) e' e1
    · refine h.sr j s M hs ?_ e he
      rw [P.ls, repl? A L L' C (j + 1) hj]; exact hM

/-- (A ++ x :: y :: C)[j]? off (A ++ z :: C) -/
theorem two? {α : Type} (A : List α) (x y z : α) (C : List α) (j : Nat) : (A ++ x :: y :: C)[j]? = if j < A.length then (A ++ z :: C)[j]? else if j = A.length then some x else if j = A.length + 1 then some y else (A ++ z :: C)[j - 1]? := by
  by_cases h : j < A.length
  · rw [if_pos h, List.getElem?_append_left h, List.getElem?_append_left h]
  · rw [if_neg h, mid?, if_neg h]
    by_cases e : j = A.length
    · rw [if_pos e, if_pos e]
    · rw [if_neg e, if_neg e]
      by_cases e2 : j = A.length + 1
      · rw [if_pos e2]; have : j - A.length - 1 = 0 := by omega
        rw [this]; rfl
      · rw [if_neg e2, mid?, if_neg (by omega), if_neg (by omega)]
        have : j - A.length - 1 = (j - 1 - A.length - 1) + 1 := by omega
        rw [this, List.getElem?_cons_succ]

theorem asc_es_mid {f : Sl → List UInt8} {A : List Lf} {L : Lf} {C : List Lf} (h : AscE f (A.flatMap Lf.es ++ L.es ++ C.flatMap Lf.es)) : AscE f L.es := by
  unfold AscE at *
  rw [List.pairwise_append, List.pairwise_append] at h
  exact h.1.2.1

/-- a leaf has been split in two, the second new -/
theorem Core.split {f : Sl → List UInt8} {K : Sl → Prop} {B : Nat} {w w' : World} {eb : Nat} {T : Tr} {A : List Lf} {L L1 R : Lf} {C : List Lf} {SA SC : List Sl} {I' : Inn} {m : Nat}
    (h : Core f K B w eb T) (hls : T.ls = A ++ L :: C) (hss : T.seps = SA ++ SC) (hSA : SA.length = A.length)
    (hm : 128 ≤ m) (hm2 : m + 128 ≤ L.es.length) (h1 : L1.At w') (h2 : R.At w') (e1 : L1.es = L.es.take m) (e2 : R.es = L.es.drop m)
    (hI : I'.At w' (SA ++ (L.es[m]'(by omega)).1 :: SC) ((A ++ L1 :: R :: C).map Lf.nb))
    (hfr : Fr (fun k => L.own k ∨ k = eb ∨ ∃ I, T.inn = some I ∧ I.own k) w w')
    (o1 : ∀ k, L1.own k → L.own k ∨ w.heap.size ≤ k) (o2 : ∀ k, R.own k → w.heap.size ≤ k) (oI : ∀ k, I'.own k → (∃ I, T.inn = some I ∧ I.own k) ∨ w.heap.size ≤ k)
    (d12 : ∀ k, L1.own k → R.own k → False) (dI1 : ∀ k, L1.own k → ¬ I'.own k) (dI2 : ∀ k, R.own k → ¬ I'.own k) :
    Core f K B w' eb ⟨A ++ L1 :: R :: C, some I', SA ++ (L.es[m]'(by omega)).1 :: SC⟩ ∧ Tr.es ⟨A ++ L1 :: R :: C, some I', SA ++ (L.es[m]'(by omega)).1 :: SC⟩ = T.es ∧ (∀ k, Tr.own ⟨A ++ L1 :: R :: C, some I', SA ++ (L.es[m]'(by omega)).1 :: SC⟩ eb k → T.own eb k ∨ w.heap.size ≤ k) := by
  have hLm : L ∈ T.ls := by rw [hls]; simp
  have hACm : ∀ M, M ∈ A ∨ M ∈ C → M ∈ T.ls := fun M hM => by rw [hls]; rcases hM with hM | hM <;> simp [hM]
  have hpw := h.pw
  rw [hls, List.pairwise_append, List.pairwise_cons] at hpw
  obtain ⟨pA, ⟨pL, pC⟩, pAC⟩ := hpw
  have hlt : ∀ M ∈ T.ls, ∀ k, M.own k → k < w.heap.size := fun M hM => (h.lf M hM).lt
  have aL : ∀ M, M ∈ A ∨ M ∈ C → ∀ k, M.own k → ¬ L.own k := fun M hM k hk hk' => hM.elim (fun hM => pAC M hM L (by simp) k hk hk') (fun hM => pL M hM k hk' hk)
  have aI : ∀ M, M ∈ T.ls → ∀ k, M.own k → ¬ ∃ I, T.inn = some I ∧ I.own k := by
    rintro M hM k hk ⟨I, hI1, hI2⟩
    rcases h.sh with ⟨g1, _⟩ | ⟨I0, g1, _, _, _, _, g6, _⟩
    · rw [g1] at hI1; cases hI1
    · rw [g1] at hI1; cases hI1; exact g6 M hM k hk hI2
  have eI : ¬ ∃ I, T.inn = some I ∧ I.own eb := by
    rintro ⟨I, hI1, hI2⟩
    rcases h.sh with ⟨g1, _⟩ | ⟨I0, g1, _, _, _, _, _, g7⟩
    · rw [g1] at hI1; cases hI1
    · rw [g1] at hI1; cases hI1; exact g7 hI2
  have keepAC : ∀ M, M ∈ A ∨ M ∈ C → M.At w' := fun M hM => (h.lf M (hACm M hM)).fr hfr (fun k hk hF => by
    rcases hF with hF | hF | hF
    · exact aL M hM k hk hF
    · subst hF; exact h.ne M (hACm M hM) hk
    · exact aI M (hACm M hM) k hk hF)
  have ap1 : ∀ M, M ∈ A ∨ M ∈ C → ∀ k, M.own k → ¬ L1.own k := fun M hM k hk hk' => by
    rcases o1 k hk' with e | e
    · exact aL M hM k hk e
    · have := hlt M (hACm M hM) k hk; omega
  have ap2 : ∀ M, M ∈ A ∨ M ∈ C → ∀ k, M.own k → ¬ R.own k := fun M hM k hk hk' => by
    have := hlt M (hACm M hM) k hk; have := o2 k hk'; omega
  have apI : ∀ M, M ∈ A ∨ M ∈ C → ∀ k, M.own k → ¬ I'.own k := fun M hM k hk hk' => by
    rcases oI k hk' with e | e
    · exact aI M (hACm M hM) k hk e
    · have := hlt M (hACm M hM) k hk; omega
  have mem' : ∀ M, M ∈ A ++ L1 :: R :: C → M = L1 ∨ M = R ∨ (M ∈ A ∨ M ∈ C) := fun M hM => by
    rcases List.mem_append.1 hM with e | e
    · exact .inr (.inr (.inl e))
    · rcases List.mem_cons.1 e with e | e
      · exact .inl e
      · rcases List.mem_cons.1 e with e | e
        · exact .inr (.inl e)
        · exact .inr (.inr (.inr e))
  have hes' : Tr.es ⟨A ++ L1 :: R :: C, some I', SA ++ (L.es[m]'(by omega)).1 :: SC⟩ = T.es := by
    unfold Tr.es
    show (A ++ L1 :: R :: C).flatMap Lf.es = T.ls.flatMap Lf.es
    rw [hls, List.flatMap_append, List.flatMap_append, List.flatMap_cons, List.flatMap_cons, List.flatMap_cons, e1, e2, ← List.append_assoc (L.es.take m), List.take_append_drop]
  have hownT : ∀ k, Tr.own ⟨A ++ L1 :: R :: C, some I', SA ++ (L.es[m]'(by omega)).1 :: SC⟩ eb k → T.own eb k ∨ w.heap.size ≤ k := by
    rintro k (e | ⟨M, hM, hk⟩ | ⟨I, hI1, hI2⟩)
    · exact .inl (.inl e)
    · rcases mem' M hM with rfl | rfl | hM
      · exact (o1 k hk).imp (fun e => .inr (.inl ⟨L, hLm, e⟩)) id
      · exact .inr (o2 k hk)
      · exact .inl (.inr (.inl ⟨M, hACm M hM, hk⟩))
    · cases hI1
      exact (oI k hI2).imp (fun e => .inr (.inr e)) id
  have hBs : B ≤ w.heap.size := Nat.le_trans (h.low eb (.inl rfl)) (Nat.le_of_lt h.elt)
  have hl := h.seps_len (by rw [hls]; simp)
  have hCl : SC.length = C.length := by rw [hls, hss] at hl; simp at hl; omega
  have hascL : AscE f L.es := by
    have := h.asc; unfold Tr.es at this; rw [hls, List.flatMap_append, List.flatMap_cons, ← List.append_assoc] at this
    exact asc_es_mid this
  have hmL : m < L.es.length := by omega
  have kl : ∀ e ∈ L1.es, Pl.lt (f e.1) (f L.es[m].1) := by
    intro e he
    rw [e1] at he
    obtain ⟨j, hj, rfl⟩ := List.mem_iff_getElem.1 he
    have hj' : j < m := by simp at hj; omega
    rw [List.getElem_take]
    exact List.pairwise_iff_getElem.1 hascL j m (by omega) hmL hj'
  have kr : ∀ e ∈ R.es, ¬ Pl.lt (f e.1) (f L.es[m].1) := by
    intro e he
    rw [e2] at he
    obtain ⟨j, hj, rfl⟩ := List.mem_iff_getElem.1 he
    rw [List.getElem_drop]
    by_cases hj0 : j = 0
    · subst hj0; exact Pl.lt_irrefl _
    · exact Pl.not_lt_of_lt (List.pairwise_iff_getElem.1 hascL m (m + j) hmL (by simp at hj; omega) (by omega))
  have sub1 : ∀ e ∈ L1.es, e ∈ L.es := fun e he => by rw [e1] at he; exact List.mem_of_mem_take he
  have sub2 : ∀ e ∈ R.es, e ∈ L.es := fun e he => by rw [e2] at he; exact List.mem_of_mem_drop he
  have hLat : T.ls[A.length]? = some L := by rw [hls, mid?, if_neg (by omega), if_pos rfl]
  have n1 : L.es[m - 1]'(by omega) ∈ L1.es := by rw [e1, List.mem_iff_getElem]; exact ⟨m - 1, by simp; omega, by rw [List.getElem_take]⟩
  have n2 : L.es[m] ∈ R.es := by rw [e2, List.mem_iff_getElem]; exact ⟨0, by simp; omega, by rw [List.getElem_drop]; rfl⟩
  -- the separators at or below the new one, and above it
  have sepA : ∀ s ∈ SA, Pl.lt (f s) (f L.es[m].1) := by
    intro s hs
    obtain ⟨j, hj, rfl⟩ := List.mem_iff_getElem.1 hs
    have hsj : T.seps[j]? = some SA[j] := by rw [hss, List.getElem?_append_left hj, List.getElem?_eq_getElem hj]
    have hlast : ∃ t, T.seps[A.length - 1]? = some t ∧ ¬ Pl.lt (f t) (f SA[j]) := by
      have hx : A.length - 1 < T.seps.length := by rw [hss]; simp; omega
      refine ⟨T.seps[A.length - 1], List.getElem?_eq_getElem hx, ?_⟩
      have hj2 : j < T.seps.length := by rw [hss]; simp; omega
      have e : SA[j] = T.seps[j] := by rw [List.getElem?_eq_getElem hj2] at hsj; exact (Option.some.inj hsj).symm
      rw [e]; exact h.sa.not_lt j (A.length - 1) hx (by omega)
    obtain ⟨t, ht, hle⟩ := hlast
    have := h.sr _ t L ht (by rw [show A.length - 1 + 1 = A.length from by omega]; exact hLat) _ (sub1 _ n1)
    exact Pl.lt_of_le_of_lt hle (Pl.lt_of_le_of_lt this (kl _ n1))
  have sepC : ∀ s ∈ SC, Pl.lt (f L.es[m].1) (f s) := by
    intro s hs
    obtain ⟨j, hj, rfl⟩ := List.mem_iff_getElem.1 hs
    have hx : A.length < T.seps.length := by rw [hss]; simp; omega
    have hsl := h.sl A.length _ L (List.getElem?_eq_getElem hx) hLat _ (sub2 _ n2)
    have hj2 : A.length + j < T.seps.length := by rw [hss]; simp; omega
    have e : T.seps[A.length + j]? = some SC[j] := by rw [hss, List.getElem?_append_right (by omega)]; rw [show A.length + j - SA.length = j from by omega]; exact List.getElem?_eq_getElem hj
    have e' : SC[j] = T.seps[A.length + j] := by rw [List.getElem?_eq_getElem hj2] at e; exact (Option.some.inj e).symm
    rw [e']
    exact Pl.lt_of_lt_of_le hsl (h.sa.not_lt A.length (A.length + j) hj2 (by omega))
  refine ⟨⟨?_, ?_, ?_, ?_, ?_, ?_, ?_, ?_, ?_, ?_, ?_, ?_⟩, hes', hownT⟩
  · intro M hM
    rcases mem' M hM with rfl | rfl | hM
    · exact h1
    · exact h2
    · exact keepAC M hM
  · right
    refine ⟨I', rfl, hI, by simp; omega, by simp; omega, ?_, ?_, ?_⟩
    · intro M hM
      rcases mem' M hM with rfl | rfl | hM
      · rw [e1]; simp; omega
      · rw [e2]; simp; omega
      · rcases h.sh with ⟨g1, g2, g3⟩ | ⟨I0, g1, _, _, _, g5, _, _⟩
        · exfalso; rw [hls] at g2
          simp at g2
          have hA0 : A = [] := List.length_eq_zero_iff.1 (by omega)
          have hC0 : C = [] := List.length_eq_zero_iff.1 (by omega)
          subst hA0 hC0
          rcases hM with hM | hM <;> cases hM
        · exact g5 M (hACm M hM)
    · intro M hM k hk
      rcases mem' M hM with rfl | rfl | hM
      · exact dI1 k hk
      · exact dI2 k hk
      · exact apI M hM k hk
    · intro hk
      rcases oI eb hk with e | e
      · exact eI e
      · have := h.elt; omega
  · show (A ++ L1 :: R :: C).Pairwise _
    rw [List.pairwise_append, List.pairwise_cons, List.pairwise_cons]
    refine ⟨pA, ⟨fun M hM k hk hk' => ?_, fun M hM k hk hk' => ap2 M (.inr hM) k hk' hk, pC⟩, fun M hM N hN k hk => ?_⟩
    · rcases List.mem_cons.1 hM with rfl | hM
      · exact d12 k hk hk'
      · exact ap1 M (.inr hM) k hk' hk
    · rcases List.mem_cons.1 hN with rfl | hN
      · exact ap1 M (.inl hM) k hk
      · rcases List.mem_cons.1 hN with rfl | hN
        · exact ap2 M (.inl hM) k hk
        · exact pAC M hM N (by simp [hN]) k hk
  · intro M hM hk
    rcases mem' M hM with rfl | rfl | hM
    · rcases o1 eb hk with e | e
      · exact h.ne L hLm e
      · have := h.elt; omega
    · have := o2 eb hk; have := h.elt; omega
    · exact h.ne M (hACm M hM) hk
  · intro k hk
    rcases hownT k hk with e | e
    · exact h.low k e
    · omega
  · exact Nat.lt_of_lt_of_le h.elt hfr.size
  · intro M hM e he
    rcases mem' M hM with rfl | rfl | hM
    · exact h.kk L hLm e (sub1 e he)
    · exact h.kk L hLm e (sub2 e he)
    · exact h.kk M (hACm M hM) e he
  · intro s hs
    rcases List.mem_append.1 hs with e | e
    · exact h.sk s (by rw [hss]; simp [e])
    · rcases List.mem_cons.1 e with rfl | e
      · refine ⟨h.kk L hLm _ (List.getElem_mem _), fun h0 => ?_⟩
        have := kl _ n1
        rw [h0] at this
        exact Pl.not_lt_nil _ this
      · exact h.sk s (by rw [hss]; simp [e])
  · rw [hes']; exact h.asc
  · intro j s M hs hM e he
    have hs' : (SA ++ L.es[m].1 :: SC)[j]? = some s := hs
    have hM' : (A ++ L1 :: R :: C)[j]? = some M := hM
    rw [two? A L1 R L C] at hM'
    rw [mid?, hSA] at hs'
    by_cases c1 : j < A.length
    · rw [if_pos c1] at hs' hM'
      exact h.sl j s M (by rw [hss, List.getElem?_append_left (by omega)]; exact hs') (by rw [hls]; exact hM') e he
    · rw [if_neg c1] at hs' hM'
      by_cases c2 : j = A.length
      · rw [if_pos c2] at hs' hM'
        cases hs'; cases hM'
        exact kl e he
      · rw [if_neg c2] at hs' hM'
        have hso : T.seps[j - 1]? = some s := by rw [hss, List.getElem?_append_right (by omega), hSA, show j - 1 - A.length = j - A.length - 1 from by omega]; exact hs'
        by_cases c3 : j = A.length + 1
        · rw [if_pos c3] at hM'
          cases hM'
          have : j - 1 = A.length := by omega
          rw [this] at hso
          exact h.sl _ s L hso hLat e (sub2 e he)
        · rw [if_neg c3] at hM'
          exact h.sl _ s M hso (by rw [hls]; exact hM') e he
  · intro j s M hs hM e he
    have hs' : (SA ++ L.es[m].1 :: SC)[j]? = some s := hs
    have hM' : (A ++ L1 :: R :: C)[j + 1]? = some M := hM
    rw [two? A L1 R L C] at hM'
    rw [mid?, hSA] at hs'
    by_cases c1 : j < A.length
    · rw [if_pos c1] at hs'
      have hso : T.seps[j]? = some s := by rw [hss, List.getElem?_append_left (by omega)]; exact hs'
      by_cases c0 : j + 1 < A.length
      · rw [if_pos c0] at hM'
        exact h.sr j s M hso (by rw [hls]; exact hM') e he
      · rw [if_neg c0, if_pos (by omega)] at hM'
        cases hM'
        exact h.sr j s L hso (by rw [show j + 1 = A.length from by omega]; exact hLat) e (sub1 e he)
    · rw [if_neg c1] at hs'
      rw [if_neg (by omega), if_neg (by omega)] at hM'
      by_cases c2 : j = A.length
      · rw [if_pos c2] at hs'
        rw [if_pos (by omega)] at hM'
        cases hs'; cases hM'
        exact kr e he
      · rw [if_neg c2] at hs'
        rw [if_neg (by omega)] at hM'
        have hso : T.seps[j - 1]? = some s := by rw [hss, List.getElem?_append_right (by omega), hSA, show j - 1 - A.length = j - A.length - 1 from by omega]; exact hs'
        exact h.sr (j - 1) s M hso (by rw [hls, show j - 1 + 1 = j + 1 - 1 from by omega]; exact hM') e he
  · show Asc f (SA ++ L.es[m].1 :: SC)
    have hsa := h.sa
    unfold Asc at hsa ⊢
    rw [hss, List.pairwise_append] at hsa
    rw [List.pairwise_append, List.pairwise_cons]
    refine ⟨hsa.1, ⟨sepC, hsa.2.1⟩, fun s hs t ht => ?_⟩
    rcases List.mem_cons.1 ht with rfl | ht
    · exact sepA s hs
    · exact hsa.2.2 s hs t ht
end Go.Proofs.Qxb6615626a.BV
