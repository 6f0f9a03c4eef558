/-
  What both range laws share.
-/
import Derived.Test.Qxb6615626aLawp
namespace Go.Proofs.Qxb6615626a.BA
open Go.RowKit
set_option linter.unusedVariables false

def TruePost (w : World) (e : Ending) (w' : World) : Prop := e = .returned (.bool true) ∧ Fr (fun _ => False) w w'

/-- what both range laws know behind their first calls -/
structure RStart (w w1 : World) (s e t : Sl) (ss es : List Sl) (ls le : List (List UInt8)) (lt : List UInt8) (op : Bool) : Prop where
  fr : Fr (fun _ => False) w w1
  hs : LstB w1 s ss ls
  he : LstB w1 e es le
  ht : Byt w1 t lt
  ns : s.n = e.n
  n1 : e.n ≤ 1024
  rok : Rok ls le lt op le.length
  sm : ∀ t ∈ es, t.n ≤ 1048576
  ss' : ∀ t ∈ ss, t.n ≤ 1048576
  tn : t.n ≤ 1048576
  mkd : ∀ t ∈ es, t.made w.heap.size w1.heap.size

section
variable {w w1 : World} {s e t : Sl} {ss es : List Sl} {ls le : List (List UInt8)} {lt : List UInt8} {op : Bool}

theorem RStart.len (h : RStart w w1 s e t ss es ls le lt op) : ss.length = e.n ∧ es.length = e.n ∧ ls.length = e.n ∧ le.length = e.n := by
  have a := h.hs.lst.1; have b := h.he.lst.1; have c := h.hs.len; have d := h.he.len; have := h.ns
  omega

theorem RStart.fe (h : RStart w w1 s e t ss es ls le lt op) : es.map (rdf w1) = le := by
  have := h.len
  refine List.ext_getElem (by simp; omega) fun i h1 h2 => ?_
  rw [List.getElem_map]
  exact rdf_eq (h.he.byt i (by simpa using h1) h2)
theorem RStart.fs (h : RStart w w1 s e t ss es ls le lt op) : ss.map (rdf w1) = ls := by
  have := h.len
  refine List.ext_getElem (by simp; omega) fun i h1 h2 => ?_
  rw [List.getElem_map]
  exact rdf_eq (h.hs.byt i (by simpa using h1) h2)

theorem RStart.kok (h : RStart w w1 s e t ss es ls le lt op) (w2 : World) (hf : Fr (fun _ => False) w1 w2) : KOK (rdf w1) (· ∈ es) w2.heap.size w2 := by
  intro x hx
  obtain ⟨i, hi, rfl⟩ := List.mem_iff_getElem.1 hx
  have hl := h.len
  have hi2 : i < le.length := by omega
  have hb := h.he.byt i hi hi2
  have hne := (h.rok.one i hi2).ne hi2
  refine ⟨by rw [rdf_eq hb]; exact hb.fr hf (fun _ e => e), ?_⟩
  rcases h.mkd _ (List.getElem_mem hi) with e | e
  · have := hb.2.1 e
    exact absurd (List.length_eq_zero_iff.1 (by rw [hb.1, this])) hne
  · have := hf.size; omega
end

/-- a slice of those in play, in a later world -/
def Good (w1 W : World) (x : Sl) : Prop := Byt W x (rdf w1 x) ∧ x.n ≤ maxLen

theorem Good.cmp {w1 W : World} {x y : Sl} (hx : Good w1 W x) (hy : Good w1 W y) : CmpIs W x y (Pl.cmp (rdf w1 x) (rdf w1 y)) := cmpIs W x y _ _ hx.1 hy.1 hx.2 hy.2

theorem Good.frame {w1 W W' : World} {x : Sl} (h : Good w1 W x) (hf : Fr (fun _ => False) W W') : Good w1 W' x := ⟨h.1.fr hf (fun _ e => e), h.2⟩

section
variable {w w1 : World} {s e t : Sl} {ss es : List Sl} {ls le : List (List UInt8)} {lt : List UInt8} {op : Bool}

theorem RStart.goodE (h : RStart w w1 s e t ss es ls le lt op) : ∀ x ∈ es, Good w1 w1 x := by
  intro x hx
  obtain ⟨i, hi, rfl⟩ := List.mem_iff_getElem.1 hx
  have hl := h.len
  have hb := h.he.byt i hi (by omega)
  exact ⟨by rw [rdf_eq hb]; exact hb, h.he.small _ hx⟩
theorem RStart.goodS (h : RStart w w1 s e t ss es ls le lt op) : ∀ x ∈ ss, Good w1 w1 x := by
  intro x hx
  obtain ⟨i, hi, rfl⟩ := List.mem_iff_getElem.1 hx
  have hl := h.len
  have hb := h.hs.byt i hi (by omega)
  exact ⟨by rw [rdf_eq hb]; exact hb, h.hs.small _ hx⟩
theorem RStart.goodT (h : RStart w w1 s e t ss es ls le lt op) : Good w1 w1 t := ⟨by rw [rdf_eq h.ht]; exact h.ht, Nat.le_trans h.tn (by unfold maxLen; omega)⟩
theorem good_nil (w1 W : World) : Good w1 W Sl.nil := ⟨by rw [rdf_nil]; exact Byt.nil W, Nat.zero_le _⟩

theorem Ok.keys {f : Sl → List UInt8} {K : Sl → Prop} {B : Nat} {w : World} {eb : Nat} {T : Tr} (h : Ok f K B w eb T) : ∀ e ∈ T.es, K e.1 := by
  intro e he
  unfold Tr.es at he
  obtain ⟨L, hL, he⟩ := List.mem_flatMap.1 he
  exact h.core.kk L hL e he

theorem Held.vals {f : Sl → List UInt8} {T : Tr} (h : Held f es ss le T) : ∀ e ∈ T.es, e.2 ∈ ss := by
  intro e he
  have : (f e.1, e.2) ∈ gk f T.es := List.mem_map.2 ⟨e, he, rfl⟩
  have := h.perm.mem_iff.1 this
  exact (List.of_mem_zip this).2

/-- every range handed out is in play -/
theorem RStart.goodR (h : RStart w w1 s e t ss es ls le lt op) {T : Tr} {tl : Sl} (hH : Held (rdf w1) es ss le T) (hk : ∀ e ∈ T.es, e.1 ∈ es) (ht : op = true → tl = t) : ∀ r ∈ ranges T tl op, Good w1 w1 r.1 ∧ Good w1 w1 r.2 := by
  intro r hr
  unfold ranges at hr
  rcases List.mem_append.1 hr with hr | hr
  · obtain ⟨x, hx, rfl⟩ := List.mem_map.1 hr
    exact ⟨h.goodS _ (hH.vals x hx), h.goodE _ (hk x hx)⟩
  · cases op with
    | false => simp at hr
    | true =>
      simp at hr
      subst hr
      exact ⟨by rw [ht rfl]; exact h.goodT, good_nil _ _⟩
end

section
variable {w w1 : World} {s e t : Sl} {ss es : List Sl} {ls le : List (List UInt8)} {lt : List UInt8} {op : Bool}

theorem RStart.le_at (h : RStart w w1 s e t ss es ls le lt op) {j : Nat} {y : Sl} (hy : es[j]? = some y) : le[j]? = some (rdf w1 y) := by
  rw [← h.fe, List.getElem?_map, hy]; rfl
theorem RStart.ls_at (h : RStart w w1 s e t ss es ls le lt op) {j : Nat} {y : Sl} (hy : ss[j]? = some y) : ls[j]? = some (rdf w1 y) := by
  rw [← h.fs, List.getElem?_map, hy]; rfl

theorem RStart.rank_facts (h : RStart w w1 s e t ss es ls le lt op) {T : Tr} (tl : Sl) (hH : Held (rdf w1) es ss le T) {k : Nat} {x y : Sl} (hx : ss[k]? = some x) (hy : es[k]? = some y) :
    ∃ z, (ranges T tl op)[rankOf le (rdf w1 y)]? = some (x, z) ∧ rdf w1 z = rdf w1 y ∧ rankOf le (rdf w1 y) < T.es.length := by
  have hl := h.len
  obtain ⟨k1, e1⟩ := List.getElem?_eq_some_iff.1 (h.le_at hy)
  obtain ⟨k2, e2⟩ := List.getElem?_eq_some_iff.1 hx
  obtain ⟨a, ha, hb, hc⟩ := hH.at (by omega) k k1 k2
  rw [e1] at ha hb
  refine ⟨a.1, ?_, hb, (List.getElem?_eq_some_iff.1 ha).1⟩
  rw [ranges_at T tl op _ a ha, hc, e2]

theorem RStart.rank_step (h : RStart w w1 s e t ss es ls le lt op) (X : List UInt8) {j : Nat} {y : Sl} (hy : es[j]? = some y) :
    rankOf (le.drop j) X = rankOf (le.drop (j + 1)) X + if Pl.cmp (rdf w1 y) X < 0 then 1 else 0 := by
  obtain ⟨k1, e1⟩ := List.getElem?_eq_some_iff.1 (h.le_at hy)
  rw [List.drop_eq_getElem_cons k1, e1]
  unfold rankOf
  rw [List.countP_cons]
  simp
end

theorem handed_le (n : Nat) (stop : Int) : handed n stop ≤ n := by
  unfold handed
  by_cases h : n = 0
  · rw [if_pos h]; omega
  · rw [if_neg h]; by_cases h2 : stop < 1
    · rw [if_pos h2]; omega
    · rw [if_neg h2]; omega

/-- what ZZRangeSetEach hands back, as slices of slices -/
theorem zeach_some {R : List (Sl × Sl)} {stop : Int} {w : World} {e : Ending} {w' : World} (h : ZEachPost R stop w e w') (n hd : Nat) (hn : R.length = n) (hh : handed n stop = hd) :
    ∃ (fa fb : Option Addr) (fc fd : Nat), e = .returned (.tuple #[.slice fa hd fc, .slice fb hd fd, .bool (saidAll n stop)]) ∧ Lst w' ⟨fa, hd, fc⟩ ((R.take hd).map fun r => r.1) ∧ Lst w' ⟨fb, hd, fd⟩ ((R.take hd).map fun r => r.2) ∧ Fr (fun _ => False) w w' := by
  subst hn
  subst hh
  obtain ⟨v1, v2, h1, h2, h3, h4⟩ := h
  have e1 : v1s (R.take (handed R.length stop)) = ((R.take (handed R.length stop)).map fun r => r.1).map Sl.v := by unfold v1s; rw [List.map_map]; rfl
  have e2 : v2s (R.take (handed R.length stop)) = ((R.take (handed R.length stop)).map fun r => r.2).map Sl.v := by unfold v2s; rw [List.map_map]; rfl
  rw [e1] at h2; rw [e2] at h3
  obtain ⟨s1, a1, a2, a3⟩ := OutAt.lst h2
  obtain ⟨s2, b1, b2, b3⟩ := OutAt.lst h3
  have hl := handed_le R.length stop
  have c1 : s1.n = handed R.length stop := by rw [a3, List.length_map, List.length_take]; omega
  have c2 : s2.n = handed R.length stop := by rw [b3, List.length_map, List.length_take]; omega
  refine ⟨s1.a, s2.a, s1.c, s2.c, by rw [h1, a1, b1, c1, c2], ?_, ?_, h4⟩
  · have e : (⟨s1.a, handed R.length stop, s1.c⟩ : Sl) = s1 := by rw [← c1]
    rw [e]; exact a2
  · have e : (⟨s2.a, handed R.length stop, s2.c⟩ : Sl) = s2 := by rw [← c2]
    rw [e]; exact b2
end Go.Proofs.Qxb6615626a.BA
