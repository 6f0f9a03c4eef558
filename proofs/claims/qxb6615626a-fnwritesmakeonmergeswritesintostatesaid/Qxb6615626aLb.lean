/-
  The place of a key, as a function; plain.
-/
import Derived.Test.Qxb6615626aSearch
namespace Go.Proofs.Qxb6615626a
set_option linter.unusedVariables false

theorem LB.unique {f : Sl → List UInt8} {ks : List Sl} {k : List UInt8} {i j : Nat} (h : LB f ks k i) (g : LB f ks k j) : i = j := by
  have h1 := h.le; have h2 := g.le
  by_cases a : i < j
  · exact absurd (g.below i (by omega) a) (h.above i (by omega) (Nat.le_refl _))
  · by_cases b : j < i
    · exact absurd (h.below j (by omega) b) (g.above j (by omega) (Nat.le_refl _))
    · omega
theorem UB.unique {f : Sl → List UInt8} {ks : List Sl} {k : List UInt8} {i j : Nat} (h : UB f ks k i) (g : UB f ks k j) : i = j := by
  have h1 := h.le; have h2 := g.le
  by_cases a : i < j
  · exact absurd (h.above i (by omega) (Nat.le_refl _)) (g.below i (by omega) a)
  · by_cases b : j < i
    · exact absurd (g.above j (by omega) (Nat.le_refl _)) (h.below j (by omega) b)
    · omega

/-- the first place not below the key -/
def lb (f : Sl → List UInt8) (ks : List Sl) (k : List UInt8) : Nat := ks.findIdx fun s => decide (0 ≤ Pl.cmp (f s) k)

theorem lb_LB {f : Sl → List UInt8} {ks : List Sl} (h : Asc f ks) (k : List UInt8) : LB f ks k (lb f ks k) := by
  refine LB.of h List.findIdx_le_length (fun hi => ?_) (fun hi => ?_)
  · have : lb f ks k - 1 < ks.findIdx fun s => decide (0 ≤ Pl.cmp (f s) k) := by unfold lb at *; omega
    have h2 := List.not_of_lt_findIdx this
    simp at h2
    unfold Pl.lt; exact h2
  · have h2 := List.findIdx_getElem (w := hi)
    simp at h2
    exact (Pl.cmp_nonneg_iff _ _).1 h2

/-- is the key there? -/
def fnd (f : Sl → List UInt8) (ks : List Sl) (k : List UInt8) : Bool := ks[lb f ks k]?.any fun s => f s == k


end Go.Proofs.Qxb6615626a
