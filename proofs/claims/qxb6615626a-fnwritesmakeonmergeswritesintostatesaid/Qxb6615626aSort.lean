/-
  Sorted insertion, plain.
-/
import Derived.Test.Qxb6615626aSearch
namespace Go.Proofs.Qxb6615626a
set_option linter.unusedVariables false

section
variable {X : Type} (f : Sl → List UInt8)

/-- the entry (k, x) put into an ascending list: in the place of an equal key's value (the old key stays), or as a new entry -/
def ins (k : Sl) (x : X) : List (Sl × X) → List (Sl × X)
  | [] => [(k, x)]
  | e :: es => if Pl.cmp (f e.1) (f k) < 0 then e :: ins k x es else if Pl.cmp (f e.1) (f k) = 0 then (e.1, x) :: es else (k, x) :: e :: es

/-- ascending entries -/
def AscE (es : List (Sl × X)) : Prop := es.Pairwise fun a b => Pl.lt (f a.1) (f b.1)

variable {f}

theorem AscE.keys {es : List (Sl × X)} (h : AscE f es) : Asc f (es.map fun e => e.1) := by
  unfold Asc; rw [List.pairwise_map]; exact h

theorem ins_right (k : Sl) (x : X) : ∀ (a b : List (Sl × X)), (∀ e ∈ a, Pl.lt (f e.1) (f k)) → ins f k x (a ++ b) = a ++ ins f k x b
  | [], b, _ => rfl
  | e :: a, b, h => by
    have h1 : Pl.cmp (f e.1) (f k) < 0 := h e (by simp)
    simp only [List.cons_append, ins, if_pos h1]
    rw [ins_right k x a b (fun e' he => h e' (by simp [he]))]

theorem ins_left (k : Sl) (x : X) : ∀ (b c : List (Sl × X)), (∀ e ∈ c, Pl.lt (f k) (f e.1)) → ins f k x (b ++ c) = ins f k x b ++ c
  | [], [], _ => rfl
  | [], e :: c, h => by
    have h1 : Pl.lt (f k) (f e.1) := h e (by simp)
    have h2 : 0 < Pl.cmp (f e.1) (f k) := (Pl.cmp_pos_iff _ _).2 h1
    simp only [List.nil_append, ins]
    rw [if_neg (by omega), if_neg (by omega)]; rfl
  | e :: b, c, h => by
    simp only [List.cons_append, ins]
    split
    · rw [ins_left k x b c h]; rfl
    · split
      · rfl
      · rfl

theorem ins_mid (k : Sl) (x : X) (a b c : List (Sl × X)) (ha : ∀ e ∈ a, Pl.lt (f e.1) (f k)) (hc : ∀ e ∈ c, Pl.lt (f k) (f e.1)) : ins f k x (a ++ b ++ c) = a ++ ins f k x b ++ c := by
  rw [ins_left k x _ _ hc, ins_right k x _ _ ha]

theorem ins_new (k : Sl) (x : X) (es : List (Sl × X)) (i : Nat) (h : LB f (es.map fun e => e.1) (f k) i) (hn : ((es.map fun e => e.1)[i]?.any fun s => f s == f k) = false) (ha : AscE f es) :
    ins f k x es = es.take i ++ (k, x) :: es.drop i := by
  have hle : i ≤ es.length := by simpa using h.le
  have h1 : ins f k x (es.take i ++ es.drop i) = es.take i ++ ins f k x (es.drop i) := ins_right k x _ _ (fun e he => by
    obtain ⟨j, hj, rfl⟩ := List.mem_iff_getElem.1 he
    have hj' : j < i ∧ j < es.length := by simp at hj; omega
    have := h.below j (by simpa using hj'.2) hj'.1
    simpa using this)
  rw [List.take_append_drop] at h1
  rw [h1]
  congr 1
  cases hd : es.drop i with
  | nil => rfl
  | cons e r =>
    have hi : i < es.length := by
      have := congrArg List.length hd
      simp at this; omega
    have he : es[i] = e := by
      have := List.drop_eq_getElem_cons hi
      rw [hd] at this; exact (List.cons.inj this).1.symm
    have h2 : ¬ Pl.cmp (f e.1) (f k) < 0 := by have := h.above i (by simpa using hi) (Nat.le_refl _); rw [← Pl.cmp_neg_iff] at this; simpa [he] using this
    have h3 : ¬ f e.1 = f k := by
      intro h3
      rw [List.getElem?_eq_getElem (by simpa using hi)] at hn
      simp [he, h3] at hn
    unfold ins
    rw [if_neg (fun h4 => h2 h4), if_neg (fun h4 => h3 (Pl.cmp_eq_zero _ _ h4))]

theorem ins_found (k : Sl) (x : X) (es : List (Sl × X)) (i : Nat) (h : LB f (es.map fun e => e.1) (f k) i) (hi : i < es.length) (hn : f es[i].1 = f k) :
    ins f k x es = es.set i (es[i].1, x) := by
  have h1 : ins f k x (es.take i ++ es.drop i) = es.take i ++ ins f k x (es.drop i) := ins_right k x _ _ (fun e he => by
    obtain ⟨j, hj, rfl⟩ := List.mem_iff_getElem.1 he
    have hj' : j < i ∧ j < es.length := by simp at hj; omega
    have := h.below j (by simpa using hj'.2) hj'.1
    simpa using this)
  rw [List.take_append_drop] at h1
  rw [h1, List.drop_eq_getElem_cons hi]
  unfold ins
  have h0 : Pl.cmp (f es[i].1) (f k) = 0 := (Pl.cmp_zero_iff _ _).2 hn
  rw [if_neg (by omega), if_pos h0, List.set_eq_take_append_cons_drop, if_pos hi]

theorem found_iff (k : Sl) (es : List (Sl × X)) (i : Nat) (hi : i ≤ es.length) : ((es.map fun e => e.1)[i]?.any fun s => f s == f k) = true ↔ ∃ h : i < es.length, f es[i].1 = f k := by
  by_cases h : i < es.length
  · rw [List.getElem?_eq_getElem (by simpa using h)]; simp [h]
  · rw [List.getElem?_eq_none (by simp; omega)]; simp [h]

theorem mem_ins (k : Sl) (x : X) : ∀ (es : List (Sl × X)) (e : Sl × X), e ∈ ins f k x es → e = (k, x) ∨ e ∈ es ∨ ∃ e' ∈ es, f e'.1 = f k ∧ e = (e'.1, x)
  | [], e, h => by simp [ins] at h; exact .inl h
  | a :: es, e, h => by
    unfold ins at h
    split at h
    · rcases List.mem_cons.1 h with h | h
      · exact .inr (.inl (by simp [h]))
      · rcases mem_ins k x es e h with h | h | ⟨e', h1, h2, h3⟩
        · exact .inl h
        · exact .inr (.inl (by simp [h]))
        · exact .inr (.inr ⟨e', by simp [h1], h2, h3⟩)
    · split at h
      · rename_i h0
        rcases List.mem_cons.1 h with h | h
        · exact .inr (.inr ⟨a, by simp, Pl.cmp_eq_zero _ _ h0, h⟩)
        · exact .inr (.inl (by simp [h]))
      · rcases List.mem_cons.1 h with h | h
        · exact .inl h
        · exact .inr (.inl h)

/-- the keys behind an insertion: old keys, or the new one; as bytes: old, or the new one's -/
theorem key_ins (k : Sl) (x : X) (es : List (Sl × X)) (e : Sl × X) (h : e ∈ ins f k x es) : e.1 = k ∨ ∃ e' ∈ es, e.1 = e'.1 := by
  rcases mem_ins k x es e h with h | h | ⟨e', h1, h2, h3⟩
  · exact .inl (by rw [h])
  · exact .inr ⟨e, h, rfl⟩
  · exact .inr ⟨e', h1, by rw [h3]⟩

theorem AscE.ins {k : Sl} {x : X} : ∀ {es : List (Sl × X)}, AscE f es → AscE f (ins f k x es)
  | [], _ => by unfold AscE Qxb6615626a.ins; simp
  | a :: es, h => by
    have h1 := List.pairwise_cons.1 h
    unfold Qxb6615626a.ins
    split
    · rename_i hlt
      refine List.pairwise_cons.2 ⟨fun e he => ?_, AscE.ins h1.2⟩
      rcases key_ins k x es e he with h2 | ⟨e', h2, h3⟩
      · rw [h2]; exact hlt
      · rw [h3]; exact h1.1 e' h2
    · rename_i hge
      split
      · exact List.pairwise_cons.2 ⟨fun e he => h1.1 e he, h1.2⟩
      · rename_i hne
        have hlt : Pl.lt (f k) (f a.1) := (Pl.cmp_pos_iff _ _).1 (by omega)
        refine List.pairwise_cons.2 ⟨fun e he => ?_, h⟩
        rcases List.mem_cons.1 he with rfl | he
        · exact hlt
        · exact Pl.lt_trans hlt (h1.1 e he)

theorem length_ins (k : Sl) (x : X) : ∀ es : List (Sl × X), es.length ≤ (ins f k x es).length ∧ (ins f k x es).length ≤ es.length + 1
  | [] => by simp [ins]
  | a :: es => by
    have ih := length_ins k x es
    unfold ins
    split
    · simp; omega
    · split
      · simp
      · simp

end
end Go.Proofs.Qxb6615626a
