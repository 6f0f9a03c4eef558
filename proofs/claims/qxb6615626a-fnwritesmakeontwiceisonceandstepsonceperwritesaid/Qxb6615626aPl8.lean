/-
  FnWritesMakeOnTwiceIsOnceAndStepsOncePerWrite: the plain part, and what its last loops stand on.
-/
import Derived.Test.Qxb6615626aMst
namespace Go.Proofs.Qxb6615626a.BV
open Go.RowKit
set_option linter.unusedVariables false

theorem fidx_false (f : Sl → List UInt8) (es : List (Sl × Option Addr)) (k : List UInt8) : fidx f es k false = lb f (es.map fun e => e.1) k := by
  unfold fidx; simp [kss]

/-- the entry that First finds for a written key -/
theorem found8 {f : Sl → List UInt8} {E W E2 : List (Sl × Option Addr)} (hE : AscE f E) (hW : AscE f W) (hA : AscE f E2) (h2 : gk f E2 = gk f (mkAll f E W)) {k : List UInt8} {x : Option Addr} (hx : (k, x) ∈ gk f W) :
    (∀ a, E2[fidx f E2 k false]? = some a → f a.1 = k → x ≠ none ∧ a.2 = x) ∧ ((∀ a, E2[fidx f E2 k false]? = some a → f a.1 ≠ k) → x = none) := by
  rw [fidx_false]
  obtain ⟨e, he, hek⟩ := List.mem_map.1 hx
  have hek1 : f e.1 = k := congrArg Prod.fst hek
  have hek2 : e.2 = x := congrArg Prod.snd hek
  have memE2 : ∀ a ∈ E2, ((f a.1, a.2) ∈ gk f W ∧ a.2 ≠ none) ∨ ((f a.1, a.2) ∈ gk f E ∧ ∀ e ∈ W, f e.1 ≠ f a.1) := fun a ha => by
    have := gk_mem (f := f) ha
    rw [h2, mem_mkAll W E hE hW] at this
    exact this
  constructor
  · intro a ha hk
    have ham := List.mem_of_getElem? ha
    rcases memE2 a ham with ⟨h1, h3⟩ | ⟨_, h3⟩
    · obtain ⟨e', he', hek'⟩ := List.mem_map.1 h1
      have h4 : f e'.1 = f a.1 := (Prod.mk.inj hek').1
      have h5 : e'.2 = a.2 := (Prod.mk.inj hek').2
      have := asc_key hW he he' (by rw [hek1, h4, hk])
      subst this
      have : a.2 = x := by rw [← h5, hek2]
      exact ⟨by rw [← this]; exact h3, this⟩
    · exact absurd (by rw [hek1, hk]) (h3 e he)
  · intro hno
    cases x with
    | none => rfl
    | some y =>
      have : (k, some y) ∈ gk f E2 := by
        rw [h2, mem_mkAll W E hE hW]
        exact .inl ⟨hx, by simp⟩
      obtain ⟨a, ha, hak⟩ := List.mem_map.1 this
      have hak1 : f a.1 = k := congrArg Prod.fst hak
      have hl := lb_at hA ha
      rw [hak1] at hl
      exact absurd hak1 (hno a hl)

/-- all that the last loops read -/
structure S8 (f : Sl → List UInt8) (K : Sl → Prop) (B eb1 eb2 : Nat) (T1 T2 : Tr) (k : Sl) (ks : List Sl) (p : Sl) (pv : List (Option Addr)) (l : Sl) (lbs : List Bool) (w0 wr : World) : Prop where
  ok1 : ∃ B1, Ok f K B1 wr eb1 T1 ∧ B ≤ B1
  ok2 : ∃ B2, Ok f K B2 wr eb2 T2 ∧ B ≤ B2
  kok : KOK f K B wr
  kl : Lst wr k ks
  vl : VL wr p (pv.map Value.pointer)
  ll : VL wr l (lbs.map Value.bool)
  fr : Fr (fun _ => False) w0 wr

theorem S8.keep {f : Sl → List UInt8} {K : Sl → Prop} {B eb1 eb2 : Nat} {T1 T2 : Tr} {k : Sl} {ks : List Sl} {p : Sl} {pv : List (Option Addr)} {l : Sl} {lbs : List Bool} {w0 wr w' : World} (h : S8 f K B eb1 eb2 T1 T2 k ks p pv l lbs w0 wr) (hf : Fr (fun _ => False) wr w') : S8 f K B eb1 eb2 T1 T2 k ks p pv l lbs w0 w' := by
  obtain ⟨B1, h1, h2⟩ := h.ok1
  obtain ⟨B2, h3, h4⟩ := h.ok2
  exact ⟨⟨B1, h1.fr hf (fun _ _ e => e), h2⟩, ⟨B2, h3.fr hf (fun _ _ e => e), h4⟩, h.kok.fr hf (fun _ _ e => e), h.kl.frame hf, h.vl.frame hf, h.ll.frame hf, h.fr.trans hf (fun _ _ e => e)⟩

theorem gk_at {f : Sl → List UInt8} {E1 E2 : List (Sl × Option Addr)} (h : gk f E1 = gk f E2) {i : Nat} {s1 s2 : Sl} {x1 x2 : Option Addr} (h1 : E1[i]? = some (s1, x1)) (h2 : E2[i]? = some (s2, x2)) : f s1 = f s2 ∧ x1 = x2 := by
  have a1 : (gk f E1)[i]? = some (f s1, x1) := by unfold gk; rw [List.getElem?_map, h1]; rfl
  have a2 : (gk f E2)[i]? = some (f s2, x2) := by unfold gk; rw [List.getElem?_map, h2]; rfl
  rw [h, a2] at a1
  have := Option.some.inj a1
  exact ⟨(congrArg Prod.fst this).symm, (congrArg Prod.snd this).symm⟩
end Go.Proofs.Qxb6615626a.BV
