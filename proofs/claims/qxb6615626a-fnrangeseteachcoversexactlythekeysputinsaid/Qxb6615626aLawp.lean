/-
  The range laws' plain part.
-/
import Derived.Test.Qxb6615626aRset
import Derived.Test.Qxb6615626aZz3
namespace Go.Proofs.Qxb6615626a.BA
open Go.RowKit
set_option linter.unusedVariables false

theorem gk_zip {f : Sl → List UInt8} : ∀ (es ss : List Sl) (le : List (List UInt8)), es.map f = le → gk f (es.zip ss) = le.zip ss
  | [], ss, le, h => by subst h; rfl
  | e :: es, [], le, h => by subst h; rfl
  | e :: es, s :: ss, le, h => by
    subst h
    have := gk_zip es ss (es.map f) rfl
    show (f e, s) :: gk f (es.zip ss) = (f e, s) :: ((es.map f).zip ss)
    rw [this]

theorem Rok.distinct {ls le : List (List UInt8)} {lt : List UInt8} {op : Bool} (h : Rok ls le lt op le.length) (hl : ls.length = le.length) : le.Pairwise fun a b => a ≠ b := by
  rw [List.pairwise_iff_getElem]
  intro i j hi hj hij e
  have hi' : i < ls.length := by omega
  have hj' : j < ls.length := by omega
  have a1 := (h.one i hi).lt hi hi'
  have a2 := (h.one j hj).lt hj hj'
  rcases h.two i j hi hij hi hi' hj hj' with c | c
  · rw [e] at c; exact Pl.lt_irrefl _ (Pl.lt_trans c a2)
  · rw [← e] at c; exact Pl.lt_irrefl _ (Pl.lt_trans c a1)

theorem zip_fst_distinct {X : Type} : ∀ (le : List (List UInt8)) (ss : List X), (le.Pairwise fun a b => a ≠ b) → (le.zip ss).Pairwise fun a b => a.1 ≠ b.1
  | [], ss, _ => List.Pairwise.nil
  | l :: le, [], _ => List.Pairwise.nil
  | l :: le, s :: ss, h => by
    obtain ⟨h1, h2⟩ := List.pairwise_cons.1 h
    refine List.pairwise_cons.2 ⟨fun b hb => h1 b.1 (List.of_mem_zip (a := b.1) (b := b.2) hb).1, zip_fst_distinct le ss h2⟩

theorem countP_zip {X : Type} (p : List UInt8 → Bool) : ∀ (le : List (List UInt8)) (ss : List X), ss.length = le.length → (le.zip ss).countP (fun e => p e.1) = le.countP p
  | [], ss, _ => rfl
  | l :: le, [], h => by simp at h
  | l :: le, s :: ss, h => by
    have := countP_zip p le ss (by simpa using h)
    show ((l, s) :: le.zip ss).countP _ = _
    rw [List.countP_cons, List.countP_cons, this]

/-- the entries that the tree holds -/
structure Held (f : Sl → List UInt8) (es ss : List Sl) (le : List (List UInt8)) (T : Tr) : Prop where
  perm : (gk f T.es).Perm (le.zip ss)
  asc : AscE f T.es

theorem held_of {f : Sl → List UInt8} {es ss : List Sl} {ls le : List (List UInt8)} {lt : List UInt8} {op rev : Bool} {T : Tr} (h : T.es = insAll f [] (ordOf es ss rev)) (hf : es.map f = le) (hR : Rok ls le lt op le.length) (hl : ls.length = le.length) : Held f es ss le T := by
  have hd := zip_fst_distinct le ss (Rok.distinct hR hl)
  have hg := gk_zip (f := f) es ss le hf
  refine ⟨?_, by rw [h]; exact AscE.insAll _ _ AscE.nil⟩
  rw [h]
  refine (insAll_nil _).trans ?_
  have hp : (gk f (ordOf es ss rev)).Perm (le.zip ss) := by
    rw [← hg]
    unfold ordOf
    cases rev with
    | false => exact List.Perm.refl _
    | true =>
      show (gk f (es.zip ss).reverse).Perm _
      unfold gk
      exact (List.reverse_perm _).map _
  have hsym : ∀ a b : List UInt8 × Sl, a.1 ≠ b.1 → b.1 ≠ a.1 := fun a b h => h.symm
  rw [lasts_all _ ((hp.pairwise_iff (fun {a b} h => hsym a b h)).2 hd)]
  exact hp

theorem Held.len {f : Sl → List UInt8} {es ss : List Sl} {le : List (List UInt8)} {T : Tr} (h : Held f es ss le T) (hl : ss.length = le.length) : T.es.length = le.length := by
  rw [← length_gk (f := f), h.perm.length_eq, List.length_zip, hl, Nat.min_self]

theorem Held.same {f : Sl → List UInt8} {es ss : List Sl} {le : List (List UInt8)} {T U : Tr} (h : Held f es ss le T) (g : Held f es ss le U) : gk f T.es = gk f U.es :=
  asc_unique _ _ h.asc.gk g.asc.gk (h.perm.trans g.perm.symm)

/-- the number of the ends below -/
def rankOf (le : List (List UInt8)) (x : List UInt8) : Nat := le.countP fun y => decide (Pl.cmp y x < 0)

theorem Held.at {f : Sl → List UInt8} {es ss : List Sl} {le : List (List UInt8)} {T : Tr} (h : Held f es ss le T) (hl : ss.length = le.length) (i : Nat) (h1 : i < le.length) (h2 : i < ss.length) :
    ∃ e, T.es[rankOf le le[i]]? = some e ∧ f e.1 = le[i] ∧ e.2 = ss[i] := by
  have hm : (le[i], ss[i]) ∈ le.zip ss := by
    refine List.mem_of_getElem? (i := i) ?_
    exact List.getElem?_zip_eq_some (z := (_, _)).2 ⟨List.getElem?_eq_getElem h1, List.getElem?_eq_getElem h2⟩
  have r := rank_at (gk f T.es) (le[i], ss[i]) h.asc.gk (h.perm.mem_iff.2 hm)
  rw [h.perm.countP_eq, countP_zip (fun y => decide (Pl.cmp y le[i] < 0)) le ss hl] at r
  unfold rankOf
  unfold gk at r
  rw [List.getElem?_map] at r
  obtain ⟨e, he, h3⟩ := Option.map_eq_some_iff.1 r
  simp at h3
  exact ⟨e, he, h3.1, h3.2⟩

/-- ranges as bytes -/
def rb (f : Sl → List UInt8) (R : List (Sl × Sl)) : List (List UInt8 × List UInt8) := R.map fun r => (f r.1, f r.2)

theorem rb_same {f : Sl → List UInt8} {T U : Tr} (h : gk f T.es = gk f U.es) (t u : Sl) (op : Bool) (ht : op = true → t = u) : rb f (ranges T t op) = rb f (ranges U u op) := by
  have e : ∀ V : Tr, (V.es.map fun e => (e.2, e.1)).map (fun r : Sl × Sl => (f r.1, f r.2)) = (gk f V.es).map fun e => (f e.2, e.1) := fun V => by
    unfold gk; rw [List.map_map, List.map_map]; rfl
  unfold rb ranges
  rw [List.map_append, List.map_append, e T, e U, h]
  congr 1
  cases op with
  | false => rfl
  | true => rw [ht rfl]

theorem length_ranges (T : Tr) (t : Sl) (op : Bool) : (ranges T t op).length = T.es.length + if op then 1 else 0 := by
  unfold ranges; cases op <;> simp

theorem ranges_at (T : Tr) (t : Sl) (op : Bool) (p : Nat) (e : Sl × Sl) (h : T.es[p]? = some e) : (ranges T t op)[p]? = some (e.2, e.1) := by
  obtain ⟨hl, he⟩ := List.getElem?_eq_some_iff.1 h
  unfold ranges
  rw [List.getElem?_append_left (by simpa using hl), List.getElem?_map, h]; rfl

theorem ranges_last (T : Tr) (t : Sl) : (ranges T t true)[T.es.length]? = some (t, Sl.nil) := by
  unfold ranges
  rw [List.getElem?_append_right (by simp)]
  simp

/-- a slice that was handed back, as a slice of slices -/
theorem OutAt.lst {w : World} {v : Value} {R : List Sl} (h : OutAt w v (R.map Sl.v)) : ∃ s : Sl, v = .slice s.a s.n s.c ∧ Lst w s R ∧ s.n = R.length := by
  rcases h with ⟨h1, h2⟩ | ⟨g, cap, h1, h2⟩
  · have : R = [] := List.map_eq_nil_iff.1 h1
    subst this
    exact ⟨Sl.nil, h2, ⟨rfl, fun _ => rfl, fun a h => (nomatch h)⟩, rfl⟩
  · rw [List.length_map] at h1
    refine ⟨⟨some ⟨g, 0, none⟩, R.length, cap⟩, h1, ⟨rfl, fun h => (nomatch h), fun a ha i hi => ?_⟩, rfl⟩
    cases ha
    refine ⟨rfl, ?_⟩
    rw [Nat.zero_add]
    refine h2.cell? ?_
    rw [List.getElem?_map, List.getElem?_eq_getElem hi]; rfl
end Go.Proofs.Qxb6615626a.BA
