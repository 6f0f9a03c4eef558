/-
  The MakeOn laws' plain part.
-/
import Derived.Test.Qxb6615626aMk
namespace Go.Proofs.Qxb6615626a
set_option linter.unusedVariables false

section
variable {f : Sl → List UInt8}

theorem mem_gk_del (k0 : List UInt8) (es : List (Sl × Option Addr)) (k : List UInt8) (x : Option Addr) : (k, x) ∈ gk f (del f k0 es) ↔ (k, x) ∈ gk f es ∧ k ≠ k0 := by
  unfold gk del
  simp only [List.mem_map, List.mem_filter, Prod.mk.injEq]
  constructor
  · rintro ⟨a, ⟨h1, h2⟩, h3, h4⟩
    refine ⟨⟨a, h1, h3, h4⟩, ?_⟩
    intro e
    rw [h3, e] at h2
    simp at h2
  · rintro ⟨⟨a, h1, h3, h4⟩, h5⟩
    refine ⟨a, ⟨h1, ?_⟩, h3, h4⟩
    rw [h3]; simp [h5]

theorem mem_gk_ins (s : Sl) (y : Option Addr) (es : List (Sl × Option Addr)) (h : AscE f es) (k : List UInt8) (x : Option Addr) : (k, x) ∈ gk f (ins f s y es) ↔ (k = f s ∧ x = y) ∨ ((k, x) ∈ gk f es ∧ k ≠ f s) := by
  rw [(gk_ins s y es h).mem_iff]
  simp only [List.mem_cons, Prod.mk.injEq, List.mem_filter, bne_iff_ne, ne_eq]

theorem AscE.stepW {es : List (Sl × Option Addr)} (h : AscE f es) (e : Sl × Option Addr) : AscE f (Qxb6615626a.stepW f es e) := by
  unfold Qxb6615626a.stepW
  split
  · exact List.Pairwise.sublist (del_sub _ _) h
  · exact h.ins

theorem mem_stepW (es : List (Sl × Option Addr)) (h : AscE f es) (e : Sl × Option Addr) (k : List UInt8) (x : Option Addr) : (k, x) ∈ gk f (stepW f es e) ↔ (k = f e.1 ∧ x = e.2 ∧ x ≠ none) ∨ ((k, x) ∈ gk f es ∧ k ≠ f e.1) := by
  unfold stepW
  split
  · rename_i he
    rw [mem_gk_del, he]
    constructor
    · exact fun h => .inr h
    · rintro (⟨_, h2, h3⟩ | h)
      · exact absurd h2 h3
      · exact h
  · rename_i y he
    rw [mem_gk_ins _ _ _ h, he]
    constructor
    · rintro (⟨h1, h2⟩ | h)
      · exact .inl ⟨h1, h2, by rw [h2]; simp⟩
      · exact .inr h
    · rintro (⟨h1, h2, _⟩ | h)
      · exact .inl ⟨h1, h2⟩
      · exact .inr h

theorem AscE.mkAll : ∀ (ws : List (Sl × Option Addr)) {es : List (Sl × Option Addr)}, AscE f es → AscE f (Qxb6615626a.mkAll f es ws)
  | [], es, h => h
  | e :: ws, es, h => AscE.mkAll ws (h.stepW e)

theorem mem_mkAll : ∀ (ws es : List (Sl × Option Addr)), AscE f es → AscE f ws → ∀ (k : List UInt8) (x : Option Addr), (k, x) ∈ gk f (mkAll f es ws) ↔ ((k, x) ∈ gk f ws ∧ x ≠ none) ∨ ((k, x) ∈ gk f es ∧ ∀ e ∈ ws, f e.1 ≠ k)
  | [], es, h, _, k, x => by
    show (k, x) ∈ gk f es ↔ _
    simp [gk]
  | e :: ws, es, h, hw, k, x => by
    obtain ⟨hw1, hw2⟩ := List.pairwise_cons.1 hw
    show (k, x) ∈ gk f (mkAll f (stepW f es e) ws) ↔ _
    rw [mem_mkAll ws (stepW f es e) (h.stepW e) hw2 k x, mem_stepW es h e k x]
    have e1 : gk f (e :: ws) = (f e.1, e.2) :: gk f ws := rfl
    rw [e1]
    simp only [List.mem_cons, Prod.mk.injEq, forall_eq_or_imp]
    constructor
    · rintro (⟨h1, h2⟩ | ⟨⟨h1, h2, h3⟩ | ⟨h1, h2⟩, h4⟩)
      · exact .inl ⟨.inr h1, h2⟩
      · exact .inl ⟨.inl ⟨h1, h2⟩, h3⟩
      · exact .inr ⟨h1, fun e => h2 e.symm, h4⟩
    · rintro (⟨⟨h1, h2⟩ | h1, h3⟩ | ⟨h1, h2, h3⟩)
      · refine .inr ⟨.inl ⟨h1, h2, h3⟩, fun e' he' hk => ?_⟩
        have := hw1 e' he'
        rw [hk, h1] at this
        exact Pl.lt_irrefl _ this
      · exact .inl ⟨h1, h3⟩
      · exact .inr ⟨.inr ⟨h1, fun e => h2 e.symm⟩, h3⟩

theorem nodup_asc {X : Type} {a : List (List UInt8 × X)} (h : a.Pairwise fun a b => Pl.lt a.1 b.1) : a.Nodup := by
  unfold List.Nodup
  refine h.imp ?_
  intro a b hab e
  subst e
  exact Pl.lt_irrefl _ hab

theorem asc_same {a b : List (List UInt8 × Option Addr)} (ha : a.Pairwise fun a b => Pl.lt a.1 b.1) (hb : b.Pairwise fun a b => Pl.lt a.1 b.1) (h : ∀ k x, (k, x) ∈ a ↔ (k, x) ∈ b) : a = b :=
  asc_unique a b ha hb ((List.perm_ext_iff_of_nodup (nodup_asc ha) (nodup_asc hb)).2 (fun p => h p.1 p.2))

/-- made twice is made once -/
theorem mkAll_twice (ws es : List (Sl × Option Addr)) (h : AscE f es) (hw : AscE f ws) : gk f (mkAll f (mkAll f es ws) ws) = gk f (mkAll f es ws) := by
  have h1 := AscE.mkAll ws h
  refine asc_same (AscE.mkAll ws h1).gk h1.gk fun k x => ?_
  rw [mem_mkAll ws _ h1 hw, mem_mkAll ws _ h hw]
  constructor
  · rintro (h | ⟨h | h, h2⟩)
    · exact .inl h
    · exact .inl h
    · exact .inr h
  · rintro (h | h)
    · exact .inl h
    · exact .inr ⟨.inr h, h.2⟩

theorem gk_mem {es : List (Sl × Option Addr)} {e : Sl × Option Addr} (h : e ∈ es) : (f e.1, e.2) ∈ gk f es := List.mem_map.2 ⟨e, h, rfl⟩

theorem asc_key {es : List (Sl × Option Addr)} (h : AscE f es) {a b : Sl × Option Addr} (ha : a ∈ es) (hb : b ∈ es) (e : f a.1 = f b.1) : a = b := by
  obtain ⟨i, hi, rfl⟩ := List.mem_iff_getElem.1 ha
  obtain ⟨j, hj, rfl⟩ := List.mem_iff_getElem.1 hb
  by_cases c : i = j
  · subst c; rfl
  · rcases Nat.lt_or_gt_of_ne c with c | c
    · have := List.pairwise_iff_getElem.1 h i j hi hj c
      rw [e] at this; exact absurd this (Pl.lt_irrefl _)
    · have := List.pairwise_iff_getElem.1 h j i hj hi c
      rw [e] at this; exact absurd this (Pl.lt_irrefl _)

/-- where a key that is there lies -/
theorem lb_at {es : List (Sl × Option Addr)} (h : AscE f es) {a : Sl × Option Addr} (ha : a ∈ es) : es[lb f (es.map fun e => e.1) (f a.1)]? = some a := by
  have hlb := lb_LB h.keys (f a.1)
  obtain ⟨i, hi, hia⟩ := List.mem_iff_getElem.1 ha
  have hkl : (es.map fun e => e.1).length = es.length := by simp
  have e0 : ∀ j (hj : j < es.length), (es.map fun e => e.1)[j]'(by rw [hkl]; exact hj) = es[j].1 := fun j hj => by simp
  have : lb f (es.map fun e => e.1) (f a.1) = i := by
    rcases Nat.lt_trichotomy (lb f (es.map fun e => e.1) (f a.1)) i with c | c | c
    · have h1 := hlb.above (lb f (es.map fun e => e.1) (f a.1)) (by rw [hkl]; omega) (Nat.le_refl _)
      rw [e0 _ (by omega)] at h1
      have h2 := List.pairwise_iff_getElem.1 h _ i (by omega) hi c
      rw [hia] at h2
      exact absurd h2 h1
    · exact c
    · have h1 := hlb.below i (by rw [hkl]; exact hi) c
      rw [e0 _ hi, hia] at h1
      exact absurd h1 (Pl.lt_irrefl _)
  rw [this, List.getElem?_eq_getElem hi, hia]
end
end Go.Proofs.Qxb6615626a
