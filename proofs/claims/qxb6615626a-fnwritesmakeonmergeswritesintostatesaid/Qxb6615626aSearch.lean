/-
  Binary search over ascending keys, plain.
-/
import Derived.Test.Qxb6615626aBase
namespace Go.Proofs.Qxb6615626a
set_option linter.unusedVariables false

/-- what a search for a key in an ascending row of keys comes to: the first place not below it -/
structure LB (f : Sl → List UInt8) (ks : List Sl) (k : List UInt8) (i : Nat) : Prop where
  le : i ≤ ks.length
  below : ∀ j (h : j < ks.length), j < i → Pl.lt (f ks[j]) k
  above : ∀ j (h : j < ks.length), i ≤ j → ¬ Pl.lt (f ks[j]) k

/-- the number of separators at or below the key -/
structure UB (f : Sl → List UInt8) (ks : List Sl) (k : List UInt8) (i : Nat) : Prop where
  le : i ≤ ks.length
  below : ∀ j (h : j < ks.length), j < i → ¬ Pl.lt k (f ks[j])
  above : ∀ j (h : j < ks.length), i ≤ j → Pl.lt k (f ks[j])

/-- strictly ascending -/
def Asc (f : Sl → List UInt8) (ks : List Sl) : Prop := ks.Pairwise fun a b => Pl.lt (f a) (f b)

theorem Asc.lt {f : Sl → List UInt8} {ks : List Sl} (h : Asc f ks) (i j : Nat) (hj : j < ks.length) (hij : i < j) : Pl.lt (f (ks[i]'(by omega))) (f ks[j]) :=
  List.pairwise_iff_getElem.1 h i j (by omega) hj hij

theorem Asc.not_lt {f : Sl → List UInt8} {ks : List Sl} (h : Asc f ks) (i j : Nat) (hj : j < ks.length) (hij : i ≤ j) : ¬ Pl.lt (f ks[j]) (f (ks[i]'(by omega))) := by
  by_cases e : i = j
  · subst e; exact Pl.lt_irrefl _
  · exact Pl.not_lt_of_lt (h.lt i j hj (by omega))

/-- the search's state: all below 'l' are below the key, all from 'h' on are not -/
structure Mid (f : Sl → List UInt8) (ks : List Sl) (k : List UInt8) (l h : Nat) : Prop where
  le : l ≤ h
  hi : h ≤ ks.length
  below : ∀ j (h : j < ks.length), j < l → Pl.lt (f ks[j]) k
  above : ∀ j (hj : j < ks.length), h ≤ j → ¬ Pl.lt (f ks[j]) k

theorem Mid.right {f : Sl → List UInt8} {ks : List Sl} {k : List UInt8} {l h m : Nat} (M : Mid f ks k l h) (ha : Asc f ks) (hm : l ≤ m) (hmh : m < h) (hl : Pl.lt (f (ks[m]'(by have := M.hi; omega))) k) : Mid f ks k (m + 1) h :=
  ⟨hmh, M.hi, fun j hj hjm => by
    by_cases e : j = m
    · subst e; exact hl
    · exact Pl.lt_trans (ha.lt j m (by have := M.hi; omega) (by omega)) hl, M.above⟩

theorem Mid.left {f : Sl → List UInt8} {ks : List Sl} {k : List UInt8} {l h m : Nat} (M : Mid f ks k l h) (ha : Asc f ks) (hm : l ≤ m) (hmh : m < h) (hl : ¬ Pl.lt (f (ks[m]'(by have := M.hi; omega))) k) : Mid f ks k l m :=
  ⟨hm, by have := M.hi; omega, M.below, fun j hj hjm => Pl.le_trans hl (ha.not_lt m j hj hjm)⟩

structure MidU (f : Sl → List UInt8) (ks : List Sl) (k : List UInt8) (l h : Nat) : Prop where
  le : l ≤ h
  hi : h ≤ ks.length
  below : ∀ j (h : j < ks.length), j < l → ¬ Pl.lt k (f ks[j])
  above : ∀ j (hj : j < ks.length), h ≤ j → Pl.lt k (f ks[j])

theorem MidU.right {f : Sl → List UInt8} {ks : List Sl} {k : List UInt8} {l h m : Nat} (M : MidU f ks k l h) (ha : Asc f ks) (hm : l ≤ m) (hmh : m < h) (hl : ¬ Pl.lt k (f (ks[m]'(by have := M.hi; omega)))) : MidU f ks k (m + 1) h :=
  ⟨hmh, M.hi, fun j hj hjm => Pl.le_trans (ha.not_lt j m (by have := M.hi; omega) (by omega)) hl, M.above⟩

theorem MidU.left {f : Sl → List UInt8} {ks : List Sl} {k : List UInt8} {l h m : Nat} (M : MidU f ks k l h) (ha : Asc f ks) (hm : l ≤ m) (hmh : m < h) (hl : Pl.lt k (f (ks[m]'(by have := M.hi; omega)))) : MidU f ks k l m :=
  ⟨hm, by have := M.hi; omega, M.below, fun j hj hjm => Pl.lt_of_lt_of_le hl (ha.not_lt m j hj hjm)⟩

theorem LB.of {f : Sl → List UInt8} {ks : List Sl} {k : List UInt8} {i : Nat} (ha : Asc f ks) (hi : i ≤ ks.length) (h1 : ∀ h : 0 < i, Pl.lt (f (ks[i - 1]'(by omega))) k) (h2 : ∀ h : i < ks.length, ¬ Pl.lt (f ks[i]) k) : LB f ks k i :=
  ⟨hi, fun j hj hji => by
    by_cases e : j = i - 1
    · subst e; exact h1 (by omega)
    · exact Pl.lt_trans (ha.lt j (i - 1) (by omega) (by omega)) (h1 (by omega)),
   fun j hj hij => Pl.le_trans (h2 (by omega)) (ha.not_lt i j hj hij)⟩

theorem cmp_beq (a b : List UInt8) : (Pl.cmp a b == 0) = (a == b) := by
  rw [Bool.eq_iff_iff, beq_iff_eq, beq_iff_eq, Pl.cmp_zero_iff]

/-- the lower bound of child i -/
def loOf (ks : List Sl) (i : Nat) (lo : Sl) : Sl := if 0 < i then (ks[i - 1]?).getD lo else lo
/-- the upper bound of child i -/
def hiOf (ks : List Sl) (i : Nat) (hi : Sl) : Sl := (ks[i]?).getD hi

end Go.Proofs.Qxb6615626a
