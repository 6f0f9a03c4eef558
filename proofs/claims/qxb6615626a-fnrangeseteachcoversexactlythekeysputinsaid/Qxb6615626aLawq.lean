/-
  The covering law's plain part.
-/
import Derived.Test.Qxb6615626aLaw0
namespace Go.Proofs.Qxb6615626a.BA
open Go.RowKit
set_option linter.unusedVariables false

/-- does the range hold the key? -/
def hold (P : List UInt8) (r : List UInt8 × List UInt8) : Bool := decide (Pl.cmp r.1 P ≤ 0) && (r.2.isEmpty || decide (Pl.cmp P r.2 < 0))

theorem countP_le_one {α : Type} (p : α → Bool) : ∀ l : List α, (l.Pairwise fun a b => ¬ (p a = true ∧ p b = true)) → l.countP p ≤ 1
  | [], _ => by simp
  | a :: l, h => by
    obtain ⟨h1, h2⟩ := List.pairwise_cons.1 h
    have ih := countP_le_one p l h2
    rw [List.countP_cons]
    by_cases ha : p a = true
    · have : l.countP p = 0 := List.countP_eq_zero.2 fun b hb => fun hh => h1 b hb ⟨ha, hh⟩
      rw [this, if_pos ha]; exact Nat.le_refl _
    · rw [if_neg ha]; omega

theorem countP_one_any {α : Type} (p : α → Bool) (l : List α) (h : l.countP p ≤ 1) : (decide (l.countP p = 1)) = l.any p := by
  by_cases ha : l.any p = true
  · rw [ha, decide_eq_true_iff]
    obtain ⟨x, hx, hp⟩ := List.any_eq_true.1 ha
    have : 0 < l.countP p := List.countP_pos_iff.2 ⟨x, hx, hp⟩
    omega
  · have hf : l.any p = false := by simpa using ha
    rw [hf, decide_eq_false_iff_not]
    intro h1
    have : 0 < l.countP p := by omega
    obtain ⟨x, hx, hp⟩ := List.countP_pos_iff.1 this
    exact ha (List.any_eq_true.2 ⟨x, hx, hp⟩)

section
variable {w w1 : World} {s e t : Sl} {ss es : List Sl} {ls le : List (List UInt8)} {lt : List UInt8} {op : Bool}

theorem RStart.ent (h : RStart w w1 s e t ss es ls le lt op) {T : Tr} (hH : Held (rdf w1) es ss le T) : ∀ a ∈ T.es, ∃ i, ∃ (h1 : i < le.length) (h2 : i < ls.length), le[i] = rdf w1 a.1 ∧ ls[i] = rdf w1 a.2 := by
  intro a ha
  have hm : (rdf w1 a.1, a.2) ∈ gk (rdf w1) T.es := List.mem_map.2 ⟨a, ha, rfl⟩
  have hm2 := hH.perm.mem_iff.1 hm
  obtain ⟨i, hi, he⟩ := List.mem_iff_getElem.1 hm2
  rw [List.getElem_zip] at he
  simp only [Prod.mk.injEq] at he
  have hl := h.len
  have h1 : i < le.length := by simp at hi; omega
  have h3 : i < ss.length := by simp at hi; omega
  have h2 : i < ls.length := by omega
  refine ⟨i, h1, h2, he.1, ?_⟩
  have := h.ls_at (List.getElem?_eq_getElem h3)
  rw [List.getElem?_eq_getElem h2, he.2] at this
  exact Option.some.inj this

theorem RStart.each (h : RStart w w1 s e t ss es ls le lt op) {T : Tr} (hH : Held (rdf w1) es ss le T) : ∀ a ∈ T.es, Pl.lt (rdf w1 a.2) (rdf w1 a.1) ∧ rdf w1 a.1 ≠ [] ∧ (op = true → Pl.lt (rdf w1 a.1) lt) := by
  intro a ha
  obtain ⟨i, h1, h2, e1, e2⟩ := h.ent hH a ha
  have r := h.rok.one i h1
  rw [← e1, ← e2]
  exact ⟨r.lt h1 h2, r.ne h1, fun ho => r.tl ho h1⟩

theorem RStart.gap (h : RStart w w1 s e t ss es ls le lt op) {T : Tr} (hH : Held (rdf w1) es ss le T) : ∀ a ∈ T.es, ∀ b ∈ T.es, Pl.lt (rdf w1 a.1) (rdf w1 b.1) → Pl.lt (rdf w1 a.1) (rdf w1 b.2) := by
  intro a ha b hb hab
  obtain ⟨i, h1, h2, e1, e2⟩ := h.ent hH a ha
  obtain ⟨j, k1, k2, f1, f2⟩ := h.ent hH b hb
  rw [← e1, ← f1] at hab
  rw [← e1, ← f2]
  have ri := (h.rok.one i h1).lt h1 h2
  have rj := (h.rok.one j k1).lt k1 k2
  have hne : i ≠ j := fun e => by subst e; exact Pl.lt_irrefl _ hab
  have hor : Pl.lt le[i] ls[j] ∨ Pl.lt le[j] ls[i] := by
    rcases Nat.lt_or_gt_of_ne hne with c | c
    · exact h.rok.two i j h1 c h1 h2 k1 k2
    · exact (h.rok.two j i k1 c k1 k2 h1 h2).symm
  rcases hor with c | c
  · exact c
  · exact absurd (Pl.lt_trans (Pl.lt_trans c ri) hab) (Pl.lt_irrefl _)

/-- each range lies below the next -/
theorem RStart.order (h : RStart w w1 s e t ss es ls le lt op) {T : Tr} {tl : Sl} (hH : Held (rdf w1) es ss le T) (ht : op = true → tl = t) :
    (rb (rdf w1) (ranges T tl op)).Pairwise fun a b => Pl.lt a.2 b.1 ∧ a.2 ≠ [] := by
  unfold rb ranges
  rw [List.map_append, List.pairwise_append]
  refine ⟨?_, ?_, ?_⟩
  · rw [List.pairwise_map, List.pairwise_map]
    have := hH.asc
    unfold AscE at this
    rw [List.pairwise_iff_forall_sublist] at this ⊢
    intro a b hab
    have hs := this hab
    have ha : a ∈ T.es := hab.subset (by simp)
    have hb : b ∈ T.es := hab.subset (by simp)
    exact ⟨h.gap hH a ha b hb hs, (h.each hH a ha).2.1⟩
  · cases op <;> simp
  · intro a ha b hb
    obtain ⟨c, hc, rfl⟩ := List.mem_map.1 ha
    obtain ⟨d, hd, rfl⟩ := List.mem_map.1 hc
    cases op with
    | false => simp at hb
    | true =>
      simp at hb
      subst hb
      refine ⟨?_, (h.each hH d hd).2.1⟩
      show Pl.lt (rdf w1 d.1) (rdf w1 tl)
      rw [ht rfl, rdf_eq h.ht]
      exact (h.each hH d hd).2.2 rfl

theorem RStart.bounded (h : RStart w w1 s e t ss es ls le lt op) {T : Tr} {tl : Sl} (hH : Held (rdf w1) es ss le T) : ∀ r ∈ rb (rdf w1) (ranges T tl op), r.2 ≠ [] → Pl.lt r.1 r.2 := by
  intro r hr hne
  unfold rb ranges at hr
  rw [List.map_append] at hr
  rcases List.mem_append.1 hr with hr | hr
  · obtain ⟨c, hc, rfl⟩ := List.mem_map.1 hr
    obtain ⟨d, hd, rfl⟩ := List.mem_map.1 hc
    exact (h.each hH d hd).1
  · cases op with
    | false => simp at hr
    | true =>
      simp at hr
      subst hr
      exact absurd (rdf_nil w1) hne

theorem RStart.count (h : RStart w w1 s e t ss es ls le lt op) {T : Tr} {tl : Sl} (hH : Held (rdf w1) es ss le T) (ht : op = true → tl = t) (P : List UInt8) : (rb (rdf w1) (ranges T tl op)).countP (hold P) ≤ 1 := by
  refine countP_le_one _ _ ?_
  refine (h.order hH ht).imp fun {a b} hab => ?_
  rintro ⟨ha, hb⟩
  unfold hold at ha hb
  simp at ha hb
  rcases ha.2 with e | e
  · exact hab.2 e
  · have h1 : Pl.lt P b.1 := Pl.lt_trans e hab.1
    have h2 := (Pl.cmp_nonpos_iff _ _).1 hb.1
    exact h2 h1

/-- the ranges put in, as bytes -/
def putIn (ls le : List (List UInt8)) (lt : List UInt8) (op : Bool) : List (List UInt8 × List UInt8) := ls.zip le ++ if op then [(lt, [])] else []

theorem zip_swap {f : Sl → List UInt8} : ∀ (le : List (List UInt8)) (ss : List Sl), (le.zip ss).map (fun e => (f e.2, e.1)) = (ss.map f).zip le
  | [], ss => by simp
  | l :: le, [] => by simp
  | l :: le, s :: ss => by simp [zip_swap le ss]

theorem RStart.perm (h : RStart w w1 s e t ss es ls le lt op) {T : Tr} {tl : Sl} (hH : Held (rdf w1) es ss le T) (ht : op = true → tl = t) : (rb (rdf w1) (ranges T tl op)).Perm (putIn ls le lt op) := by
  unfold rb ranges putIn
  rw [List.map_append]
  refine List.Perm.append ?_ ?_
  · rw [List.map_map]
    have e : (T.es.map ((fun r : Sl × Sl => (rdf w1 r.1, rdf w1 r.2)) ∘ fun e => (e.2, e.1))) = (gk (rdf w1) T.es).map fun e => (rdf w1 e.2, e.1) := by unfold gk; rw [List.map_map]; rfl
    rw [e]
    have := hH.perm.map fun e : List UInt8 × Sl => (rdf w1 e.2, e.1)
    rw [zip_swap le ss, h.fs] at this
    exact this
  · cases op with
    | false => exact List.Perm.refl _
    | true =>
      show ([(rdf w1 tl, rdf w1 Sl.nil)] : List (List UInt8 × List UInt8)).Perm [(lt, [])]
      rw [ht rfl, rdf_eq h.ht, rdf_nil]

theorem RStart.found (h : RStart w w1 s e t ss es ls le lt op) {T : Tr} {tl : Sl} (hH : Held (rdf w1) es ss le T) (ht : op = true → tl = t) (P : List UInt8) :
    decide ((rb (rdf w1) (ranges T tl op)).countP (hold P) = 1) = (putIn ls le lt op).any (hold P) := by
  rw [countP_one_any _ _ (h.count hH ht P)]
  have hp := h.perm hH ht
  rw [Bool.eq_iff_iff, List.any_eq_true, List.any_eq_true]
  constructor
  · rintro ⟨x, hx, hy⟩; exact ⟨x, hp.mem_iff.1 hx, hy⟩
  · rintro ⟨x, hx, hy⟩; exact ⟨x, hp.mem_iff.2 hx, hy⟩
end
end Go.Proofs.Qxb6615626a.BA
