/-
  zzMerged, the plain part: which entries it gathers, and where it lays them.
-/
import Derived.Test.Qxb6615626aMst
namespace Go.Proofs.Qxb6615626a.BV
open Go.RowKit
set_option linter.unusedVariables false

/-- the entries among the first i whose flag is set and that p takes -/
def selT (p : Sl × Option Addr → Bool) (es : List (Sl × Option Addr)) (bs : List Bool) (i : Nat) : List (Sl × Option Addr) := (((es.zip bs).take i).filter fun e => e.2 && p e.1).map (·.1)

theorem selT_zero (p : Sl × Option Addr → Bool) (es : List (Sl × Option Addr)) (bs : List Bool) : selT p es bs 0 = [] := by unfold selT; simp

theorem selT_succ (p : Sl × Option Addr → Bool) (es : List (Sl × Option Addr)) (bs : List Bool) (i : Nat) (e : Sl × Option Addr) (b : Bool) (h1 : es[i]? = some e) (h2 : bs[i]? = some b) :
    selT p es bs (i + 1) = selT p es bs i ++ if b && p e then [e] else [] := by
  obtain ⟨l1, g1⟩ := List.getElem?_eq_some_iff.1 h1
  obtain ⟨l2, g2⟩ := List.getElem?_eq_some_iff.1 h2
  unfold selT
  rw [List.take_succ_eq_append_getElem (by rw [List.length_zip]; omega), List.filter_append, List.map_append, List.getElem_zip, g1, g2]
  congr 1
  by_cases c : (b && p e) = true
  · rw [if_pos c]; simp [c]
  · rw [if_neg c]; simp [c]

theorem length_selT (p : Sl × Option Addr → Bool) (es : List (Sl × Option Addr)) (bs : List Bool) (i : Nat) : (selT p es bs i).length ≤ i := by
  unfold selT
  rw [List.length_map]
  have h1 := List.length_filter_le (fun e : (Sl × Option Addr) × Bool => e.2 && p e.1) ((es.zip bs).take i)
  rw [List.length_take] at h1
  omega

theorem mem_selT {p : Sl × Option Addr → Bool} {es : List (Sl × Option Addr)} {bs : List Bool} {i : Nat} {e : Sl × Option Addr} (h : e ∈ selT p es bs i) : e ∈ es := by
  unfold selT at h
  obtain ⟨a, h1, rfl⟩ := List.mem_map.1 h
  have h2 := List.mem_of_mem_take (List.mem_filter.1 h1).1
  obtain ⟨a1, a2⟩ := a
  exact (List.of_mem_zip h2).1

section
variable {f : Sl → List UInt8}

theorem gk_sel (p : List UInt8 × Option Addr → Bool) : ∀ (ks : List Sl) (pv : List (Option Addr)) (n : Nat), ks.length = pv.length → ks.length ≤ n →
    gk f (selT (fun e => p (f e.1, e.2)) (ks.zip pv) (lastB (ks.map f)) n) = (lasts ((ks.map f).zip pv)).filter p
  | [], pv, n, h, _ => by simp [selT, gk, lasts]
  | k :: ks, [], n, h, _ => by simp at h
  | k :: ks, x :: pv, 0, h, hn => by simp at hn
  | k :: ks, x :: pv, n + 1, h, hn => by
    have ih := gk_sel p ks pv n (by simpa using h) (by simpa using hn)
    unfold selT gk at ih ⊢
    simp only [List.map_cons, lastB, List.zip_cons_cons, List.take_succ_cons, lasts]
    rw [zip_any (f k) (ks.map f) pv (by simpa using h)]
    by_cases c : (ks.map f).any (· == f k) = true
    · rw [if_pos c, c]
      simp only [Bool.not_true, Bool.false_and, List.filter_cons, Bool.false_eq_true, if_false]
      exact ih
    · rw [if_neg c]
      have c' : (ks.map f).any (· == f k) = false := by simpa using c
      rw [c']
      simp only [Bool.not_false, Bool.true_and, List.filter_cons]
      by_cases d : p (f k, x) = true
      · rw [if_pos d, if_pos d, List.map_cons, List.map_cons, ih]
      · rw [if_neg d, if_neg d, ih]

theorem lasts_key {X : Type} : ∀ (l : List (List UInt8 × X)) (k : List UInt8), (∃ e ∈ l, e.1 = k) → ∃ e ∈ lasts l, e.1 = k
  | [], k, h => by simp at h
  | e :: l, k, h => by
    rw [lasts]
    by_cases c : l.any (fun e' => e'.1 == e.1) = true
    · rw [if_pos c]
      refine lasts_key l k ?_
      obtain ⟨a, ha, rfl⟩ := h
      rcases List.mem_cons.1 ha with rfl | ha
      · obtain ⟨b, hb, hb2⟩ := List.any_eq_true.1 c
        exact ⟨b, hb, by simpa using hb2⟩
      · exact ⟨a, ha, rfl⟩
    · rw [if_neg c]
      obtain ⟨a, ha, rfl⟩ := h
      rcases List.mem_cons.1 ha with rfl | ha
      · exact ⟨a, List.mem_cons_self .., rfl⟩
      · obtain ⟨b, hb, hb2⟩ := lasts_key l a.1 ⟨a, ha, rfl⟩
        exact ⟨b, List.mem_cons_of_mem _ hb, hb2⟩

/-- a write that takes a key away does not count -/
def pW (e : Sl × Option Addr) : Bool := e.2.isSome
/-- a base entry that no write touches -/
def pB (f : Sl → List UInt8) (lk : List (List UInt8)) (e : Sl × Option Addr) : Bool := !lk.any (· == f e.1)

/-- what is gathered is what the made tree holds -/
theorem merged_perm {bks ks : List Sl} {pb pv : List (Option Addr)} {lbk lk : List (List UInt8)} {T Tw : Tr} (hb : bks.map f = lbk) (hk : ks.map f = lk) (lb : bks.length = pb.length) (lkl : ks.length = pv.length) (HB : HeldL f lbk pb T) (HW : HeldL f lk pv Tw) (n m : Nat) (hn : ks.length ≤ n) (hm : bks.length ≤ m) :
    (gk f (selT pW (ks.zip pv) (lastB lk) n ++ selT (pB f lk) (bks.zip pb) (lastB lbk) m)).Perm (gk f (mkAll f T.es Tw.es)) := by
  have e1 : gk f (selT pW (ks.zip pv) (lastB lk) n) = (lasts (lk.zip pv)).filter fun e => e.2.isSome := by
    rw [← hk]; exact gk_sel (f := f) (fun e => e.2.isSome) ks pv n lkl hn
  have e2 : gk f (selT (pB f lk) (bks.zip pb) (lastB lbk) m) = (lasts (lbk.zip pb)).filter fun e => !lk.any (· == e.1) := by
    rw [← hb]; exact gk_sel (f := f) (fun e => !lk.any (· == e.1)) bks pb m lb hm
  have e0 : gk f (selT pW (ks.zip pv) (lastB lk) n ++ selT (pB f lk) (bks.zip pb) (lastB lbk) m) = gk f (selT pW (ks.zip pv) (lastB lk) n) ++ gk f (selT (pB f lk) (bks.zip pb) (lastB lbk) m) := by
    unfold gk; rw [List.map_append]
  rw [e0, e1, e2]
  refine ((HW.perm.symm.filter _).append (HB.perm.symm.filter _)).trans ?_
  have hA := AscE.mkAll (f := f) Tw.es HB.asc
  have inlk : ∀ (k : List UInt8) (x : Option Addr), (k, x) ∈ gk f Tw.es → lk.any (· == k) = true := by
    intro k x h
    have h1 := lasts_mem _ _ (HW.perm.mem_iff.1 h)
    exact List.any_eq_true.2 ⟨k, (List.of_mem_zip h1).1, by simp⟩
  refine (List.perm_ext_iff_of_nodup ?_ (nodup_asc hA.gk)).2 fun p => ?_
  · rw [List.nodup_append]
    refine ⟨(nodup_asc HW.asc.gk).filter _, (nodup_asc HB.asc.gk).filter _, ?_⟩
    rintro ⟨a1, a2⟩ ha ⟨b1, b2⟩ hb2 he
    have h1 := inlk a1 a2 (List.mem_filter.1 ha).1
    have h2 := (List.mem_filter.1 hb2).2
    rw [← he] at h2
    simp only [h1] at h2
    simp at h2
  · obtain ⟨k, x⟩ := p
    rw [mem_mkAll Tw.es T.es HB.asc HW.asc k x, List.mem_append, List.mem_filter, List.mem_filter]
    have i1 : ∀ x : Option Addr, x.isSome = true ↔ x ≠ none := fun x => by cases x <;> simp
    have i2 : (!lk.any (· == k)) = true ↔ ∀ e ∈ Tw.es, f e.1 ≠ k := by
      constructor
      · intro h e he hek
        have := inlk k e.2 (by have := gk_mem (f := f) he; rw [hek] at this; exact this)
        rw [this] at h
        simp at h
      · intro h
        cases hc : lk.any (· == k) with
        | false => rfl
        | true =>
          exfalso
          obtain ⟨y, hy, hyk⟩ := List.any_eq_true.1 hc
          have hyk : y = k := by simpa using hyk
          subst hyk
          have hz : ∃ e ∈ lk.zip pv, e.1 = y := by
            obtain ⟨i, hi, rfl⟩ := List.mem_iff_getElem.1 hy
            have hi2 : i < pv.length := by rw [← lkl]; rw [← hk] at hi; simpa using hi
            refine ⟨(lk[i], pv[i]), ?_, rfl⟩
            rw [← List.getElem_zip (h := by rw [List.length_zip]; omega)]
            exact List.getElem_mem _
          obtain ⟨⟨e1, e2⟩, he, rfl⟩ := lasts_key _ _ hz
          obtain ⟨a, ha, hae⟩ := List.mem_map.1 (HW.perm.mem_iff.2 he)
          refine h a ha ?_
          exact (Prod.mk.inj hae).1
    simp only [i1, i2]
end

/-- what stands in the out rows when the first i of c are laid -/
def Laid (f : Sl → List UInt8) (K : Sl → Prop) (E c : List (List UInt8 × Option Addr)) (i : Nat) (oks : List Sl) (ovs : List (Option Addr)) : Prop :=
  ∀ (r : Nat) (k : List UInt8) (x : Option Addr), E[r]? = some (k, x) → (k, x) ∈ c.take i → ∃ o, oks[r]? = some o ∧ f o = k ∧ K o ∧ ovs[r]? = some x

theorem Laid.zero {f : Sl → List UInt8} {K : Sl → Prop} {E c : List (List UInt8 × Option Addr)} {oks : List Sl} {ovs : List (Option Addr)} : Laid f K E c 0 oks ovs := by
  intro r k x _ h; simp at h

theorem Laid.succ {f : Sl → List UInt8} {K : Sl → Prop} {E c : List (List UInt8 × Option Addr)} {i : Nat} {oks : List Sl} {ovs : List (Option Addr)} (h : Laid f K E c i oks ovs) (hE : E.Pairwise fun a b => Pl.lt a.1 b.1) (s : Sl) (x : Option Addr) (hc : c[i]? = some (f s, x)) (hK : K s) (r : Nat) (hr : E[r]? = some (f s, x)) (h1 : r < oks.length) (h2 : r < ovs.length) :
    Laid f K E c (i + 1) (oks.set r s) (ovs.set r x) := by
  intro r' k' x' hr' hm
  by_cases e : r' = r
  · subst e
    rw [hr] at hr'
    cases hr'
    exact ⟨s, by rw [List.getElem?_set_self h1], rfl, hK, by rw [List.getElem?_set_self h2]⟩
  · have hm2 : (k', x') ∈ c.take i := by
      obtain ⟨l1, g1⟩ := List.getElem?_eq_some_iff.1 hc
      rw [List.take_succ_eq_append_getElem l1, List.mem_append] at hm
      rcases hm with hm | hm
      · exact hm
      · exfalso
        rw [g1] at hm
        have hm : (k', x') = (f s, x) := by simpa using hm
        rw [hm] at hr'
        obtain ⟨p1, q1⟩ := List.getElem?_eq_some_iff.1 hr
        obtain ⟨p2, q2⟩ := List.getElem?_eq_some_iff.1 hr'
        have hnd := nodup_asc hE
        exact e ((List.getElem_inj (h₀ := p2) (h₁ := p1) hnd).1 (by rw [q1, q2]))
    obtain ⟨o, o1, o2, o3, o4⟩ := h r' k' x' hr' hm2
    refine ⟨o, ?_, o2, o3, ?_⟩
    · rw [List.getElem?_set_ne (Ne.symm e)]; exact o1
    · rw [List.getElem?_set_ne (Ne.symm e)]; exact o4

theorem Laid.all {f : Sl → List UInt8} {K : Sl → Prop} {E c : List (List UInt8 × Option Addr)} {i : Nat} {oks : List Sl} {ovs : List (Option Addr)} (h : Laid f K E c i oks ovs) (hp : c.Perm E) (hi : c.length ≤ i) :
    ∀ (r : Nat) (k : List UInt8) (x : Option Addr), E[r]? = some (k, x) → ∃ o, oks[r]? = some o ∧ f o = k ∧ K o ∧ ovs[r]? = some x := by
  intro r k x hr
  refine h r k x hr ?_
  rw [List.take_of_length_le hi]
  exact hp.mem_iff.2 (List.mem_of_getElem? hr)

/-- the rank of the i-th -/
theorem rank_of {E c : List (List UInt8 × Option Addr)} (hE : E.Pairwise fun a b => Pl.lt a.1 b.1) (hp : c.Perm E) {i : Nat} {y : List UInt8 × Option Addr} (hc : c[i]? = some y) {r : Nat} (hr : r = c.countP fun e => decide (Pl.cmp e.1 y.1 < 0)) : E[r]? = some y := by
  rw [hr, hp.countP_eq]
  exact rank_at E y hE (hp.mem_iff.1 (List.mem_of_getElem? hc))
end Go.Proofs.Qxb6615626a.BV
