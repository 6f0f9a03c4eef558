/-
  The tree's invariant is kept where its blocks are (V by the namespace).
-/
import Derived.Test.Qxb6615626aTcurB
namespace Go.Proofs.Qxb6615626a.BV
open Go.RowKit
set_option linter.unusedVariables false

theorem Core.fr {F : Nat → Prop} {f : Sl → List UInt8} {K : Sl → Prop} {B : Nat} {w w' : World} {eb : Nat} {T : Tr} (h : Core f K B w eb T) (hf : Fr F w w') (hn : ∀ k, T.own eb k → ¬ F k) : Core f K B w' eb T := by
  refine ⟨fun L hL => (h.lf L hL).fr hf (fun k hk => hn k (.inr (.inl ⟨L, hL, hk⟩))), ?_, h.pw, h.ne, h.low, Nat.lt_of_lt_of_le h.elt hf.size, h.kk, h.sk, h.asc, h.sl, h.sr, h.sa⟩
  rcases h.sh with g | ⟨I, h1, h2, h3⟩
  · exact .inl g
  · exact .inr ⟨I, h1, h2.fr hf (fun k hk => hn k (.inr (.inr ⟨I, h1, hk⟩))), h3⟩

theorem Ok.fr {F : Nat → Prop} {f : Sl → List UInt8} {K : Sl → Prop} {B : Nat} {w w' : World} {eb : Nat} {T : Tr} (h : Ok f K B w eb T) (hf : Fr F w w') (hn : ∀ k, T.own eb k → ¬ F k) : Ok f K B w' eb T := by
  obtain ⟨nl, lo, hi, p, h1, h2⟩ := h.ed
  exact ⟨h.core.fr hf hn, h.full, nl, lo, hi, p, h1.fr hf (hn eb (.inl rfl)), h2⟩

theorem KOK.fr {F : Nat → Prop} {f : Sl → List UInt8} {K : Sl → Prop} {B : Nat} {w w' : World} (h : KOK f K B w) (hf : Fr F w w') (hn : ∀ k, k < B → ¬ F k) : KOK f K B w' :=
  fun s hs => ⟨(h s hs).1.fr hf (fun _ => hn _ (h s hs).2), (h s hs).2⟩

theorem Ok.own_lt {f : Sl → List UInt8} {K : Sl → Prop} {B : Nat} {w : World} {eb : Nat} {T : Tr} (h : Ok f K B w eb T) : ∀ k, T.own eb k → k < w.heap.size := by
  rintro k (rfl | ⟨L, hL, hk⟩ | ⟨I, hI, hk⟩)
  · exact h.core.elt
  · exact (h.core.lf L hL).lt k hk
  · rcases h.core.sh with ⟨g, _⟩ | ⟨J, h1, h2, _⟩
    · rw [g] at hI; cases hI
    · rw [h1] at hI; cases hI; exact h2.lt k hk
end Go.Proofs.Qxb6615626a.BV
