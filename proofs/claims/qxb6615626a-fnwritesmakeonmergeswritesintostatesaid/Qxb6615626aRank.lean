/-
  What a run of sorted insertions leaves; ranks. Plain.
-/
import Derived.Test.Qxb6615626aSort
namespace Go.Proofs.Qxb6615626a
set_option linter.unusedVariables false

section
variable {X : Type} (f : Sl → List UInt8)

/-- entries put in one after the other -/
def insAll (es kvs : List (Sl × X)) : List (Sl × X) := kvs.foldl (fun es e => ins f e.1 e.2 es) es

/-- the keys as bytes -/
def gk (es : List (Sl × X)) : List (List UInt8 × X) := es.map fun e => (f e.1, e.2)

/-- the writes that no later write of the same key follows -/
def lasts : List (List UInt8 × X) → List (List UInt8 × X)
  | [] => []
  | e :: es => if es.any (fun e' => e'.1 == e.1) then lasts es else e :: lasts es

variable {f}

theorem length_gk (es : List (Sl × X)) : (gk f es).length = es.length := by unfold gk; simp
theorem gk_get (es : List (Sl × X)) (i : Nat) (h : i < es.length) : (gk f es)[i]? = some (f es[i].1, es[i].2) := by unfold gk; rw [List.getElem?_map, List.getElem?_eq_getElem h]; rfl

theorem AscE.gk {es : List (Sl × X)} (h : AscE f es) : (gk f es).Pairwise fun a b => Pl.lt a.1 b.1 := by
  unfold Qxb6615626a.gk; rw [List.pairwise_map]; exact h

theorem ne_of_lt {a b : List UInt8} (h : Pl.lt a b) : a ≠ b := fun e => by subst e; exact Pl.lt_irrefl a h

theorem gk_ins (k : Sl) (x : X) : ∀ es : List (Sl × X), AscE f es → (gk f (ins f k x es)).Perm ((f k, x) :: (gk f es).filter fun e => e.1 != f k)
  | [], _ => by simp [ins, gk]
  | e :: es, h => by
    have ih := gk_ins k x es (List.pairwise_cons.1 h).2
    have hgt := (List.pairwise_cons.1 h).1
    unfold ins
    split
    · rename_i hc
      have hne : f e.1 ≠ f k := ne_of_lt hc
      have e1 : gk f (e :: ins f k x es) = (f e.1, e.2) :: gk f (ins f k x es) := rfl
      have e2 : gk f (e :: es) = (f e.1, e.2) :: gk f es := rfl
      rw [e1, e2, List.filter_cons_of_pos (by simpa using hne)]
      exact (ih.cons _).trans (List.Perm.swap _ _ _)
    · split
      · rename_i hc hz
        have heq : f e.1 = f k := (Pl.cmp_zero_iff _ _).1 hz
        have e1 : gk f ((e.1, x) :: es) = (f e.1, x) :: gk f es := rfl
        have e2 : gk f (e :: es) = (f e.1, e.2) :: gk f es := rfl
        rw [e1, e2, List.filter_cons_of_neg (by simpa using heq), heq]
        rw [List.filter_eq_self.2]
        intro a ha
        obtain ⟨b, hb, rfl⟩ := List.mem_map.1 ha
        have := hgt b hb
        rw [heq] at this
        simpa using fun e => ne_of_lt this e.symm
      · rename_i hc hz
        have hlt : Pl.lt (f k) (f e.1) := (Pl.cmp_pos_iff _ _).1 (by omega)
        rw [List.filter_eq_self.2]
        · exact List.Perm.refl _
        intro a ha
        obtain ⟨b, hb, rfl⟩ := List.mem_map.1 ha
        have : Pl.lt (f k) (f b.1) := by
          rcases List.mem_cons.1 hb with rfl | hb
          · exact hlt
          · exact Pl.lt_trans hlt (hgt b hb)
        simpa using fun e => ne_of_lt this e.symm

theorem AscE.insAll : ∀ (kvs es : List (Sl × X)), AscE f es → AscE f (Qxb6615626a.insAll f es kvs)
  | [], es, h => h
  | e :: kvs, es, h => AscE.insAll kvs (Qxb6615626a.ins f e.1 e.2 es) h.ins

theorem AscE.nil : AscE f ([] : List (Sl × X)) := List.Pairwise.nil

theorem insAll_gk : ∀ (kvs es : List (Sl × X)), AscE f es → (gk f (insAll f es kvs)).Perm (lasts (gk f kvs) ++ (gk f es).filter fun e => !(gk f kvs).any fun e' => e'.1 == e.1)
  | [], es, _ => by
    show (gk f es).Perm ((gk f es).filter fun e => !([] : List (List UInt8 × X)).any fun e' => e'.1 == e.1)
    rw [List.filter_eq_self.2 (fun a _ => by simp)]
  | e :: kvs, es, h => by
    have ih := insAll_gk kvs (ins f e.1 e.2 es) h.ins
    refine List.Perm.trans ih ?_
    have e2 : gk f (e :: kvs) = (f e.1, e.2) :: gk f kvs := rfl
    rw [e2]
    have hp := (gk_ins e.1 e.2 es h).filter fun e => !(gk f kvs).any fun e' => e'.1 == e.1
    have hfil : (((gk f es).filter fun a => a.1 != f e.1).filter fun a => !(gk f kvs).any fun e' => e'.1 == a.1) = (gk f es).filter fun a => !((f e.1, e.2) :: gk f kvs).any fun e' => e'.1 == a.1 := by
      rw [List.filter_filter]
      congr 1
      funext a
      by_cases hh : a.1 = f e.1
      · simp [hh]
      · have h2 : f e.1 ≠ a.1 := fun e => hh e.symm
        have h3 : (a.1 != f e.1) = true := by simpa using hh
        have h4 : (f e.1 == a.1) = false := by simpa using h2
        simp only [List.any_cons, h3, h4, Bool.and_true, Bool.false_or]
    have el : lasts ((f e.1, e.2) :: gk f kvs) = if (gk f kvs).any (fun e' => e'.1 == f e.1) then lasts (gk f kvs) else (f e.1, e.2) :: lasts (gk f kvs) := rfl
    rw [el]
    by_cases hany : ((gk f kvs).any fun e' => e'.1 == f e.1) = true
    · rw [if_pos hany]
      rw [List.filter_cons_of_neg (by rw [hany]; simp), hfil] at hp
      exact hp.append_left _
    · rw [if_neg hany]
      rw [List.filter_cons_of_pos (by rw [Bool.not_eq_true] at hany; rw [hany]; rfl), hfil] at hp
      refine (hp.append_left _).trans ?_
      exact List.perm_middle

theorem insAll_nil (kvs : List (Sl × X)) : (gk f (insAll f [] kvs)).Perm (lasts (gk f kvs)) := by
  have := insAll_gk (f := f) kvs [] AscE.nil
  simpa [gk] using this

theorem lasts_all : ∀ l : List (List UInt8 × X), (l.Pairwise fun a b => a.1 ≠ b.1) → lasts l = l
  | [], _ => rfl
  | e :: es, h => by
    obtain ⟨h1, h2⟩ := List.pairwise_cons.1 h
    unfold lasts
    rw [if_neg, lasts_all es h2]
    intro hh
    obtain ⟨a, ha, hb⟩ := List.any_eq_true.1 hh
    exact h1 a ha (by simp at hb; exact hb.symm)

theorem lasts_mem : ∀ (l : List (List UInt8 × X)) (e : List UInt8 × X), e ∈ lasts l → e ∈ l
  | [], _, h => by simp [lasts] at h
  | a :: l, e, h => by
    unfold lasts at h
    split at h
    · exact List.mem_cons_of_mem _ (lasts_mem l e h)
    · rcases List.mem_cons.1 h with rfl | h
      · exact List.mem_cons_self ..
      · exact List.mem_cons_of_mem _ (lasts_mem l e h)

theorem lasts_distinct : ∀ l : List (List UInt8 × X), (lasts l).Pairwise fun a b => a.1 ≠ b.1
  | [] => List.Pairwise.nil
  | a :: l => by
    unfold lasts
    split
    · exact lasts_distinct l
    · rename_i hn
      refine List.pairwise_cons.2 ⟨fun b hb e => hn (List.any_eq_true.2 ⟨b, lasts_mem l b hb, by simp [e]⟩), lasts_distinct l⟩

/-- the place of an entry is the number of the entries below it -/
theorem rank_at : ∀ (es : List (List UInt8 × X)) (x : List UInt8 × X), (es.Pairwise fun a b => Pl.lt a.1 b.1) → x ∈ es → es[es.countP fun e => decide (Pl.cmp e.1 x.1 < 0)]? = some x
  | [], _, _, h => by simp at h
  | e :: es, x, hp, h => by
    obtain ⟨h1, h2⟩ := List.pairwise_cons.1 hp
    by_cases hx : x ∈ es
    · have hl : Pl.cmp e.1 x.1 < 0 := h1 x hx
      rw [List.countP_cons_of_pos (by simpa using hl), List.getElem?_cons_succ]
      exact rank_at es x h2 hx
    · have hxe : x = e := by rcases List.mem_cons.1 h with h | h
                             · exact h
                             · exact absurd h hx
      subst hxe
      have : (x :: es).countP (fun e => decide (Pl.cmp e.1 x.1 < 0)) = 0 := by
        rw [List.countP_eq_zero]
        intro a ha
        rcases List.mem_cons.1 ha with rfl | ha
        · have := Pl.lt_irrefl a.1; unfold Pl.lt at this; simpa using this
        · have := Pl.not_lt_of_lt (h1 a ha); unfold Pl.lt at this; simpa using this
      rw [this]; rfl

/-- two ascending lists of the same entries are the same -/
theorem asc_unique : ∀ (a b : List (List UInt8 × X)), (a.Pairwise fun a b => Pl.lt a.1 b.1) → (b.Pairwise fun a b => Pl.lt a.1 b.1) → a.Perm b → a = b := by
  intro a b ha hb hp
  have hl := hp.length_eq
  refine List.ext_getElem? fun i => ?_
  by_cases hi : i < a.length
  · have hx : a[i] ∈ a := List.getElem_mem hi
    have r1 := rank_at b a[i] hb (hp.mem_iff.1 hx)
    have hc : (b.countP fun e => decide (Pl.cmp e.1 (a[i]).1 < 0)) = a.countP fun e => decide (Pl.cmp e.1 (a[i]).1 < 0) := hp.symm.countP_eq _
    have r2 := rank_at a a[i] ha hx
    rw [hc] at r1
    have hidx : (a.countP fun e => decide (Pl.cmp e.1 (a[i]).1 < 0)) = i := by
      obtain ⟨hlt, heq⟩ := List.getElem?_eq_some_iff.1 r2
      by_cases h1 : (a.countP fun e => decide (Pl.cmp e.1 (a[i]).1 < 0)) < i
      · exact absurd (by rw [heq] : Pl.lt (a[a.countP fun e => decide (Pl.cmp e.1 (a[i]).1 < 0)]).1 (a[i]).1 = Pl.lt (a[i]).1 (a[i]).1) (fun e => Pl.lt_irrefl _ (e ▸ (List.pairwise_iff_getElem.1 ha _ _ hlt hi h1)))
      · by_cases h2 : i < (a.countP fun e => decide (Pl.cmp e.1 (a[i]).1 < 0))
        · have := List.pairwise_iff_getElem.1 ha _ _ hi hlt h2
          rw [heq] at this
          exact absurd this (Pl.lt_irrefl _)
        · omega
    rw [hidx] at r1
    rw [r1, List.getElem?_eq_getElem hi]
  · rw [List.getElem?_eq_none (by omega), List.getElem?_eq_none (by omega)]

end
end Go.Proofs.Qxb6615626a
