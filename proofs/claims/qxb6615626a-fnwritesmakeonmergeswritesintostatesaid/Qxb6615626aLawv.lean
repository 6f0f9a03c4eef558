/-
  The commit laws' plain part.
-/
import Derived.Test.Qxb6615626aZtree
namespace Go.Proofs.Qxb6615626a.BV
open Go.RowKit
set_option linter.unusedVariables false

theorem gk_zip {f : Sl → List UInt8} {X : Type} : ∀ (es : List Sl) (ss : List X) (le : List (List UInt8)), es.map f = le → gk f (es.zip ss) = le.zip ss
  | [], ss, le, h => by subst h; rfl
  | e :: es, [], le, h => by subst h; rfl
  | e :: es, s :: ss, le, h => by
    subst h
    have := gk_zip es ss (es.map f) rfl
    show (f e, s) :: gk f (es.zip ss) = (f e, s) :: ((es.map f).zip ss)
    rw [this]

/-- how many last writes have a key of the kind -/
def cntL (p : List UInt8 → Bool) : List (List UInt8) → Nat
  | [] => 0
  | x :: xs => cntL p xs + if (!xs.any (· == x)) && p x then 1 else 0

theorem zip_any {X : Type} (x : List UInt8) : ∀ (xs : List (List UInt8)) (vs : List X), xs.length = vs.length → (xs.zip vs).any (fun e => e.1 == x) = xs.any (· == x)
  | [], vs, _ => by simp
  | y :: ys, [], h => by simp at h
  | y :: ys, v :: vs, h => by simp [zip_any x ys vs (by simpa using h)]

theorem count_lasts {X : Type} (p : List UInt8 → Bool) : ∀ (xs : List (List UInt8)) (vs : List X), xs.length = vs.length → (lasts (xs.zip vs)).countP (fun e => p e.1) = cntL p xs
  | [], vs, _ => rfl
  | x :: xs, [], h => by simp at h
  | x :: xs, v :: vs, h => by
    have ih := count_lasts p xs vs (by simpa using h)
    show (if (xs.zip vs).any (fun e' => e'.1 == x) = true then lasts (xs.zip vs) else (x, v) :: lasts (xs.zip vs)).countP _ = _
    rw [zip_any x xs vs (by simpa using h)]
    unfold cntL
    by_cases hx : xs.any (· == x) = true
    · rw [if_pos hx, ih, hx]; simp
    · rw [if_neg hx, List.countP_cons, ih]
      have : xs.any (· == x) = false := by rw [Bool.not_eq_true] at hx; exact hx
      rw [this]
      by_cases hp : p x = true <;> simp [hp]

theorem mem_lasts {X : Type} : ∀ (xs : List (List UInt8)) (vs : List X), xs.length = vs.length → ∀ (i : Nat) (h1 : i < xs.length) (h2 : i < vs.length), (lastB xs)[i]? = some true → (xs[i], vs[i]) ∈ lasts (xs.zip vs)
  | [], vs, _, i, h1, _, _ => by simp at h1
  | x :: xs, [], h, _, _, _, _ => by simp at h
  | x :: xs, v :: vs, h, 0, h1, h2, hl => by
    have hx : xs.any (· == x) = false := by simpa [lastB] using hl
    show (x, v) ∈ (if (xs.zip vs).any (fun e' => e'.1 == x) = true then lasts (xs.zip vs) else (x, v) :: lasts (xs.zip vs))
    rw [zip_any x xs vs (by simpa using h), hx]
    simp
  | x :: xs, v :: vs, h, i + 1, h1, h2, hl => by
    have ih := mem_lasts xs vs (by simpa using h) i (by simpa using h1) (by simpa using h2) (by simpa [lastB] using hl)
    show (xs[i]'_, vs[i]'_) ∈ (if (xs.zip vs).any (fun e' => e'.1 == x) = true then lasts (xs.zip vs) else (x, v) :: lasts (xs.zip vs))
    split
    · exact ih
    · exact List.mem_cons_of_mem _ ih

/-- the tree holds the last writes, in order -/
structure HeldL (f : Sl → List UInt8) (lk : List (List UInt8)) (vs : List (Option Addr)) (T : Tr) : Prop where
  perm : (gk f T.es).Perm (lasts (lk.zip vs))
  asc : AscE f T.es

theorem heldL_of {f : Sl → List UInt8} {ks : List Sl} {lk : List (List UInt8)} {vs : List (Option Addr)} {T : Tr} (h : T.es = insAll f [] (ordOf ks vs false)) (hf : ks.map f = lk) : HeldL f lk vs T := by
  refine ⟨?_, by rw [h]; exact AscE.insAll _ _ AscE.nil⟩
  rw [h]
  have := insAll_nil (f := f) (ordOf ks vs false)
  have e : ordOf ks vs false = ks.zip vs := rfl
  rw [e, gk_zip ks vs lk hf] at this
  rw [e]
  exact this

theorem HeldL.len {f : Sl → List UInt8} {lk : List (List UInt8)} {vs : List (Option Addr)} {T : Tr} (h : HeldL f lk vs T) (hl : lk.length = vs.length) : T.es.length = cntL (fun _ => true) lk := by
  rw [← length_gk (f := f), h.perm.length_eq, ← count_lasts (fun _ => true) lk vs hl]
  simp

theorem HeldL.at {f : Sl → List UInt8} {lk : List (List UInt8)} {vs : List (Option Addr)} {T : Tr} (h : HeldL f lk vs T) (hl : lk.length = vs.length) (i : Nat) (h1 : i < lk.length) (h2 : i < vs.length) (hb : (lastB lk)[i]? = some true) :
    ∃ e, T.es[cntL (fun y => decide (Pl.cmp y lk[i] < 0)) lk]? = some e ∧ f e.1 = lk[i] ∧ e.2 = vs[i] := by
  have hm := mem_lasts lk vs hl i h1 h2 hb
  have r := rank_at (gk f T.es) (lk[i], vs[i]) h.asc.gk (h.perm.mem_iff.2 hm)
  rw [h.perm.countP_eq, count_lasts (fun y => decide (Pl.cmp y lk[i] < 0)) lk vs hl] at r
  unfold gk at r
  rw [List.getElem?_map] at r
  obtain ⟨e, he, h3⟩ := Option.map_eq_some_iff.1 r
  simp at h3
  exact ⟨e, he, h3.1, h3.2⟩

theorem cntL_step (p : List UInt8 → Bool) (lk : List (List UInt8)) (j : Nat) (hj : j < lk.length) (b : Bool) (hb : (lastB lk)[j]? = some b) : cntL p (lk.drop j) = cntL p (lk.drop (j + 1)) + if b && p lk[j] then 1 else 0 := by
  rw [lastB_at lk j hj] at hb
  have hb := Option.some.inj hb
  rw [List.drop_eq_getElem_cons hj]
  show cntL p (lk.drop (j + 1)) + (if (!(lk.drop (j + 1)).any (· == lk[j])) && p lk[j] then 1 else 0) = _
  rw [hb]

theorem cntL_le (p : List UInt8 → Bool) : ∀ lk : List (List UInt8), cntL p lk ≤ lk.length
  | [] => Nat.le_refl _
  | x :: xs => by
    have := cntL_le p xs
    unfold cntL
    simp only [List.length_cons]
    split <;> omega

theorem cntL_pos (lk : List (List UInt8)) (h : lk ≠ []) : 0 < cntL (fun _ => true) lk := by
  induction lk with
  | nil => exact absurd rfl h
  | cons x xs ih =>
    unfold cntL
    by_cases hx : xs.any (· == x) = true
    · have : xs ≠ [] := fun e => by rw [e] at hx; simp at hx
      have := ih this
      omega
    · have : xs.any (· == x) = false := by rw [Bool.not_eq_true] at hx; exact hx
      rw [this]; simp

/-- a slice handed back, as a slice of slices, or of pointers -/
theorem OutB.lst {w : World} {v : Value} {es : List (Sl × Option Addr)} (h : OutB w 23 v (kvs es)) : ∃ a c, v = .slice a es.length c ∧ Lst w ⟨a, es.length, c⟩ (kss es) := by
  rcases h with ⟨h1, h2⟩ | ⟨g, cap, h1, h2⟩
  · have : es = [] := by unfold kvs at h1; exact List.map_eq_nil_iff.1 h1
    subst this
    exact ⟨none, 0, h2, ⟨rfl, fun _ => rfl, fun a h => (nomatch h)⟩⟩
  · rw [length_kvs] at h1
    refine ⟨some ⟨g, 0, none⟩, cap, h1, ⟨by rw [length_kss], fun h => (nomatch h), fun a ha i hi => ?_⟩⟩
    cases ha
    refine ⟨rfl, ?_⟩
    rw [Nat.zero_add]
    have hie : i < es.length := by rw [length_kss] at hi; exact hi
    rw [kss_get es i hie]
    exact h2.cell? (kvs_get es i hie)
theorem OutB.ptr {w : World} {v : Value} {es : List (Sl × Option Addr)} (h : OutB w 48 v (vvs es)) : ∃ a c, v = .slice a es.length c ∧ VL w ⟨a, es.length, c⟩ (vvs es) := by
  rcases h with ⟨h1, h2⟩ | ⟨g, cap, h1, h2⟩
  · have : es = [] := by unfold vvs at h1; exact List.map_eq_nil_iff.1 h1
    subst this
    exact ⟨none, 0, h2, ⟨rfl, fun _ => rfl, fun a h => (nomatch h)⟩⟩
  · rw [length_vvs] at h1
    refine ⟨some ⟨g, 0, none⟩, cap, h1, ?_⟩
    rw [length_vvs] at h2
    exact VL.row h2

/-- what both commit laws know behind their clones -/
structure CStart (w w1 : World) (k v : Sl) (ks vs : List Sl) (lk lv : List (List UInt8)) : Prop where
  fr : Fr (fun _ => False) w w1
  hk : LstB w1 k ks lk
  hv : LstB w1 v vs lv
  nv : v.n = k.n
  n1 : k.n ≤ 4096
  pos : 0 < k.n
  mkd : ∀ t ∈ ks, t.made w.heap.size w1.heap.size

section
variable {w w1 : World} {k v : Sl} {ks vs : List Sl} {lk lv : List (List UInt8)}

theorem CStart.len (h : CStart w w1 k v ks vs lk lv) : ks.length = k.n ∧ lk.length = k.n := by
  have a := h.hk.lst.1; have c := h.hk.len
  omega

theorem CStart.fk (h : CStart w w1 k v ks vs lk lv) : ks.map (rdf w1) = lk := by
  have := h.len
  refine List.ext_getElem (by simp; omega) fun i h1 h2 => ?_
  rw [List.getElem_map]
  exact rdf_eq (h.hk.byt i (by simpa using h1) h2)

theorem CStart.at (h : CStart w w1 k v ks vs lk lv) {j : Nat} {y : Sl} (hy : ks[j]? = some y) : lk[j]? = some (rdf w1 y) := by
  rw [← h.fk, List.getElem?_map, hy]; rfl

theorem CStart.kok (h : CStart w w1 k v ks vs lk lv) (w2 : World) (hf : Fr (fun _ => False) w1 w2) : KOK (rdf w1) (· ∈ ks) w2.heap.size w2 := by
  intro x hx
  obtain ⟨i, hi, rfl⟩ := List.mem_iff_getElem.1 hx
  have hl := h.len
  have hi2 : i < lk.length := by omega
  have hb := h.hk.byt i hi hi2
  have hsz : 0 < w1.heap.size := by
    obtain ⟨ka, kn, kc⟩ := k
    obtain ⟨b, o, t, _, hc, _⟩ := h.hk.lst.at h.pos
    have := World.block_lt_of_cell? w1 _ hc
    exact Nat.lt_of_le_of_lt (Nat.zero_le _) this
  have hle := hf.size
  refine ⟨by rw [rdf_eq hb]; exact hb.fr hf (fun _ e => e), ?_⟩
  rcases h.mkd _ (List.getElem_mem hi) with e | e
  · have : (ks[i]).blk = 0 := by unfold Sl.blk; rw [e]
    omega
  · omega

def Good (w1 W : World) (x : Sl) : Prop := Byt W x (rdf w1 x) ∧ x.n ≤ maxLen

theorem CStart.good (h : CStart w w1 k v ks vs lk lv) : ∀ x ∈ ks, Good w1 w1 x := by
  intro x hx
  obtain ⟨i, hi, rfl⟩ := List.mem_iff_getElem.1 hx
  have hl := h.len
  have hb := h.hk.byt i hi (by omega)
  exact ⟨by rw [rdf_eq hb]; exact hb, h.hk.small _ hx⟩
end

theorem Good.cmp {w1 W : World} {x y : Sl} (hx : Good w1 W x) (hy : Good w1 W y) : CmpIs W x y (Pl.cmp (rdf w1 x) (rdf w1 y)) := cmpIs W x y _ _ hx.1 hy.1 hx.2 hy.2
theorem Good.frame {w1 W W' : World} {x : Sl} (h : Good w1 W x) (hf : Fr (fun _ => False) W W') : Good w1 W' x := ⟨h.1.fr hf (fun _ e => e), h.2⟩
end Go.Proofs.Qxb6615626a.BV
