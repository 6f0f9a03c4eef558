/-
  A cursor at the p-th entry (V by the namespace): Valid, Key, Value, Next.
-/
import Derived.Test.Qxb6615626aNxB
namespace Go.Proofs.Qxb6615626a.BV
open Go.RowKit
set_option linter.unusedVariables false

/-- a tree as a cursor reads it -/
structure Rd (w : World) (T : Tr) : Prop where
  lf : ∀ L ∈ T.ls, L.At w
  small : ∀ L ∈ T.ls, L.es.length ≤ 256
  sh : (T.inn = none ∧ T.ls.length ≤ 1) ∨ (∃ I, T.inn = some I ∧ I.At w T.seps (T.ls.map Lf.nb) ∧ T.ls.length ≤ 1000 ∧ T.ls ≠ [] ∧ ∀ L ∈ T.ls, 0 < L.es.length)

theorem Rd.fr {F : Nat → Prop} {w w' : World} {T : Tr} (h : Rd w T) (hf : Fr F w w') (hL : ∀ L ∈ T.ls, ∀ k, L.own k → ¬ F k) (hI : ∀ I, T.inn = some I → ∀ k, I.own k → ¬ F k) : Rd w' T := by
  refine ⟨fun L hl => (h.lf L hl).fr hf (hL L hl), h.small, ?_⟩
  rcases h.sh with g | ⟨I, h1, h2, h3⟩
  · exact .inl g
  · exact .inr ⟨I, h1, h2.fr hf (hI I h1), h3⟩

/-- the tree's blocks are not those of the cursor -/
structure Apart (T : Tr) (cb g : Nat) : Prop where
  lf : ∀ L ∈ T.ls, ∀ k, L.own k → k ≠ cb ∧ k ≠ g
  inn : ∀ I, T.inn = some I → ∀ k, I.own k → k ≠ cb ∧ k ≠ g

inductive CurAt (w : World) (cb g : Nat) (T : Tr) (p : Nat) : Prop
  | done (a : Option Addr) (c : Nat) (h : CurB w cb (.slice a 0 c)) (hp : p = T.es.length) : CurAt w cb g T p
  | one (cap : Nat) (L : Lf) (hi : T.inn = none) (hl : T.ls = [L]) (hp : p < L.es.length) (h : Onep w cb g cap L.nb p) : CurAt w cb g T p
  | two (cap : Nat) (I : Inn) (A : List Lf) (L : Lf) (C : List Lf) (i : Nat) (hi : T.inn = some I) (hl : T.ls = A ++ L :: C) (hp : p = (A.flatMap Lf.es).length + i) (hlt : i < L.es.length) (h : Two w cb g cap I.rb A.length L.nb i) : CurAt w cb g T p

theorem Tr.es_at {T : Tr} {A : List Lf} {L : Lf} {C : List Lf} (hl : T.ls = A ++ L :: C) {i : Nat} (hi : i < L.es.length) : T.es[(A.flatMap Lf.es).length + i]? = some L.es[i] := by
  unfold Tr.es
  rw [hl, List.flatMap_append, List.flatMap_cons, List.getElem?_append_right (by omega), Nat.add_sub_cancel_left, List.getElem?_append_left hi, List.getElem?_eq_getElem hi]
theorem Tr.es_len {T : Tr} {A : List Lf} {L : Lf} {C : List Lf} (hl : T.ls = A ++ L :: C) : T.es.length = (A.flatMap Lf.es).length + (L.es.length + (C.flatMap Lf.es).length) := by
  unfold Tr.es
  rw [hl, List.flatMap_append, List.flatMap_cons, List.length_append, List.length_append]

theorem CurAt.fr {F : Nat → Prop} {w w' : World} {cb g : Nat} {T : Tr} {p : Nat} (h : CurAt w cb g T p) (hf : Fr F w w') (hc : ¬ F cb) (hg : ¬ F g) : CurAt w' cb g T p := by
  cases h with
  | done a c h hp => exact .done a c (h.fr hf hc) hp
  | one cap L hi hl hp h => exact .one cap L hi hl hp (h.fr hf hc hg)
  | two cap I A L C i hi hl hp hlt h => exact .two cap I A L C i hi hl hp hlt (h.fr hf hc hg)

theorem CurAt.lt {w : World} {cb g : Nat} {T : Tr} {p : Nat} (h : CurAt w cb g T p) : cb < w.heap.size := by
  cases h with
  | done a c h hp => exact h.lt
  | one cap L hi hl hp h => exact h.cur.lt
  | two cap I A L C i hi hl hp hlt h => exact h.cur.lt

theorem valid_at {w : World} {cb g : Nat} {T : Tr} {p : Nat} (h : CurAt w cb g T p) :
    Calls Try.prog 49 #[.pointer (some ⟨cb, 0, none⟩)] w fun e w' => e = .returned (.bool (decide (p < T.es.length))) ∧ ∃ k, w' = w.drewN k := by
  cases h with
  | done a c h hp =>
    refine (valid_no cb a c w h).mono ?_
    rintro e w' ⟨rfl, rfl⟩
    exact ⟨ret_bool (by rw [eq_comm, decide_eq_false_iff_not]; omega), 0, rfl⟩
  | one cap L hi hl hp h =>
    refine (valid_yes cb _ 1 cap w h.cur (.inl rfl)).mono ?_
    rintro e w' ⟨rfl, hw⟩
    have := Tr.es_len (T := T) (A := []) hl
    exact ⟨ret_bool (by rw [eq_comm, decide_eq_true_iff]; simp at this; omega), hw⟩
  | two cap I A L C i hi hl hp hlt h =>
    refine (valid_yes cb _ 2 cap w h.cur (.inr rfl)).mono ?_
    rintro e w' ⟨rfl, hw⟩
    have := Tr.es_len (T := T) hl
    exact ⟨ret_bool (by rw [eq_comm, decide_eq_true_iff]; omega), hw⟩

/-- the entry under the cursor -/
theorem CurAt.top {w : World} {cb g : Nat} {T : Tr} {p : Nat} (h : CurAt w cb g T p) (hp : p < T.es.length) :
    ∃ (cap n o i : Nat) (L : Lf), (n = 1 ∧ o = 0 ∨ n = 2 ∧ o = 2) ∧ Top w cb g cap n o L.nb i ∧ L ∈ T.ls ∧ ∃ hi : i < L.es.length, L.es[i] = T.es[p] := by
  cases h with
  | done a c h hp => omega
  | one cap L hi hl hp' h =>
    refine ⟨cap, 1, 0, p, L, .inl ⟨rfl, rfl⟩, h.top, by rw [hl]; simp, hp', ?_⟩
    have := Tr.es_at (T := T) (A := []) hl hp'
    simp only [List.flatMap_nil, List.length_nil, Nat.zero_add] at this
    rw [List.getElem?_eq_getElem hp] at this
    exact (Option.some.inj this).symm
  | two cap I A L C i hi hl hp' hlt h =>
    refine ⟨cap, 2, 2, i, L, .inr ⟨rfl, rfl⟩, h.top, by rw [hl]; simp, hlt, ?_⟩
    have := Tr.es_at (T := T) hl hlt
    rw [← hp', List.getElem?_eq_getElem hp] at this
    exact (Option.some.inj this).symm

theorem key_at {w : World} {cb g : Nat} {T : Tr} {p : Nat} (h : CurAt w cb g T p) (hT : Rd w T) (hp : p < T.es.length) :
    Calls Try.prog 53 #[.pointer (some ⟨cb, 0, none⟩)] w fun e w' => e = .returned T.es[p].1.v ∧ Fr (fun _ => False) w w' := by
  obtain ⟨cap, n, o, i, L, hn, ht, hL, hi, he⟩ := h.top hp
  have := key_any cb g cap n o L.nb i L w hn ht.cur ht.h0 ht.h1 (hT.lf L hL) hi
  rw [he] at this
  exact this

theorem value_at {w : World} {cb g : Nat} {T : Tr} {p : Nat} (h : CurAt w cb g T p) (hT : Rd w T) (hp : p < T.es.length) :
    Calls Try.prog 51 #[.pointer (some ⟨cb, 0, none⟩)] w fun e w' => e = .returned (Value.pointer T.es[p].2) ∧ Fr (fun _ => False) w w' := by
  obtain ⟨cap, n, o, i, L, hn, ht, hL, hi, he⟩ := h.top hp
  have := value_any cb g cap n o L.nb i L w hn ht.cur ht.h0 ht.h1 (hT.lf L hL) hi
  rw [he] at this
  exact this

theorem next_at {w : World} {cb g : Nat} {T : Tr} {p : Nat} (h : CurAt w cb g T p) (hT : Rd w T) (ha : Apart T cb g) (hp : p < T.es.length) :
    Calls Try.prog 50 #[.pointer (some ⟨cb, 0, none⟩)] w fun e w' => e = .returned (.tuple #[]) ∧ (Fr (fun k => k = cb ∨ k = g) w w' ∧ CurAt w' cb g T (p + 1)) := by
  cases h with
  | done a c h hp => omega
  | one cap L hi hl hp' h =>
    have hLm : L ∈ T.ls := by rw [hl]; simp
    have hs := hT.small L hLm
    have hLA := hT.lf L hLm
    have hcap : 1 ≤ cap ∧ cap ≤ maxLen := by obtain ⟨_, _, _, h1, h2, _⟩ := h.row; exact ⟨h1, h2⟩
    refine next_of cb g cap 1 0 L.nb p w (.inl ⟨rfl, rfl⟩) h.top (h.row.frozen 1) (by omega) _ ?_
    have F1 : Fr (fun k => k = g) w (w.setCell ⟨g, 0 + 1, none⟩ (.int .i64 ((p : Int) + 1))).drew := ((Fr.refl (fun k => k = g) w).setCell ⟨g, 0 + 1, none⟩ _ (fun _ => rfl)).drew
    have R1 : Onep (w.setCell ⟨g, 0 + 1, none⟩ (.int .i64 ((p : Int) + 1))).drew cb g cap L.nb (p + 1) :=
      ⟨h.cur.fr F1 (fun e => h.gc e.symm), h.row.setCell (j := 1) (by simp) (.int .i64 ((p : Int) + 1)), h.gc⟩
    have L1 := hLA.fr F1 (fun k hk e => (ha.lf L hLm k hk).2 e)
    generalize (w.setCell ⟨g, 0 + 1, none⟩ (.int .i64 ((p : Int) + 1))).drew = W1 at *
    have F1' : Fr (fun k => k = cb ∨ k = g) w W1 := F1.mono (fun _ _ e => .inr e)
    by_cases hlt : p + 1 < L.es.length
    · refine (settle_stay cb g cap 1 0 (p + 1) L W1 (.inl ⟨rfl, rfl⟩) R1.top L1 hlt).mono ?_
      rintro e w' ⟨rfl, hf⟩
      exact ⟨rfl, F1'.trans hf (fun _ _ e => e.elim), .one cap L hi hl hlt (R1.fr hf (fun e => e) (fun e => e))⟩
    · refine (settle_end1 cb g cap (p + 1) L W1 R1.top L1 (by omega) h.gc hcap.1 hcap.2).mono ?_
      rintro e w' ⟨rfl, hf, a, c, hc⟩
      refine ⟨rfl, F1'.trans hf (fun _ _ e => .inl e), .done a c hc ?_⟩
      have := Tr.es_len (T := T) (A := []) hl
      simp at this; omega
  | two cap I A L C i hi hl hp' hlt h =>
    have hLm : L ∈ T.ls := by rw [hl]; simp
    have hs := hT.small L hLm
    have hLA := hT.lf L hLm
    obtain ⟨hIA, hlen, hne⟩ : I.At w T.seps (T.ls.map Lf.nb) ∧ T.ls.length ≤ 1000 ∧ ∀ L ∈ T.ls, 0 < L.es.length := by
      rcases hT.sh with ⟨g1, _⟩ | ⟨J, g1, g2, g3, _, g4⟩
      · rw [g1] at hi; cases hi
      · rw [g1] at hi; cases hi; exact ⟨g2, g3, g4⟩
    have hAl : A.length ≤ 1000 := by rw [hl] at hlen; simp at hlen; omega
    refine next_of cb g cap 2 2 L.nb i w (.inr ⟨rfl, rfl⟩) h.top (h.row.frozen 3) (by omega) _ ?_
    have F1 : Fr (fun k => k = g) w (w.setCell ⟨g, 2 + 1, none⟩ (.int .i64 ((i : Int) + 1))).drew := ((Fr.refl (fun k => k = g) w).setCell ⟨g, 2 + 1, none⟩ _ (fun _ => rfl)).drew
    have R1 : Two (w.setCell ⟨g, 2 + 1, none⟩ (.int .i64 ((i : Int) + 1))).drew cb g cap I.rb A.length L.nb (i + 1) :=
      ⟨h.cur.fr F1 (fun e => h.gc e.symm), h.row.setCell (j := 3) (by simp) (.int .i64 ((i : Int) + 1)), h.gc⟩
    have L1 := hLA.fr F1 (fun k hk e => (ha.lf L hLm k hk).2 e)
    have I1 := hIA.fr F1 (fun k hk e => (ha.inn I hi k hk).2 e)
    have M1 : ∀ M ∈ T.ls, M.At _ := fun M hM => (hT.lf M hM).fr F1 (fun k hk e => (ha.lf M hM k hk).2 e)
    generalize (w.setCell ⟨g, 2 + 1, none⟩ (.int .i64 ((i : Int) + 1))).drew = W1 at *
    have F1' : Fr (fun k => k = cb ∨ k = g) w W1 := F1.mono (fun _ _ e => .inr e)
    by_cases hlt2 : i + 1 < L.es.length
    · refine (settle_stay cb g cap 2 2 (i + 1) L W1 (.inr ⟨rfl, rfl⟩) R1.top L1 hlt2).mono ?_
      rintro e w' ⟨rfl, hf⟩
      exact ⟨rfl, F1'.trans hf (fun _ _ e => e.elim), .two cap I A L C (i + 1) hi hl (by omega) hlt2 (R1.fr hf (fun e => e) (fun e => e))⟩
    · have hel := Tr.es_len (T := T) hl
      cases C with
      | nil =>
        refine (settle_end2 cb g cap (i + 1) A.length L I T.seps (T.ls.map Lf.nb) W1 R1 L1 I1 (by omega) (by rw [hl]; simp) hAl (ha.lf L hLm) (ha.inn I hi)).mono ?_
        rintro e w' ⟨rfl, hf, a, c, hc⟩
        refine ⟨rfl, F1'.trans hf (fun _ _ e => e), .done a c hc ?_⟩
        simp only [List.flatMap_nil, List.length_nil] at hel; omega
      | cons M C =>
        have hMm : M ∈ T.ls := by rw [hl]; simp
        have hj : A.length + 1 < (T.ls.map Lf.nb).length := by rw [hl]; simp
        have hjM : (T.ls.map Lf.nb)[A.length + 1] = M.nb := by
          have : (T.ls.map Lf.nb)[A.length + 1]? = some M.nb := by
            rw [hl, List.getElem?_map, List.getElem?_append_right (by omega)]
            simp
          rw [List.getElem?_eq_getElem hj] at this
          exact Option.some.inj this
        refine (settle_next cb g cap (i + 1) A.length L I T.seps (T.ls.map Lf.nb) W1 R1 L1 I1 (by omega) M (M1 M hMm) hj hjM (ha.lf M hMm) hAl (ha.inn I hi)).mono ?_
        rintro e w' ⟨rfl, hf, hc⟩
        refine ⟨rfl, F1'.trans hf (fun _ _ e => e), .two cap I (A ++ [L]) M C 0 hi (by rw [hl]; simp) ?_ (hne M hMm) (by simpa using hc)⟩
        have e1 : ([L] : List Lf).flatMap Lf.es = L.es := by simp
        rw [List.flatMap_append, List.length_append, e1]
        omega

/-- the tree that an editor holds, read by a cursor -/
theorem Ok.rd {f : Sl → List UInt8} {K : Sl → Prop} {B : Nat} {w : World} {eb : Nat} {T : Tr} (h : Ok f K B w eb T) (hn : T.es.length ≤ 7000) : Rd w T := by
  refine ⟨h.core.lf, h.full, ?_⟩
  rcases h.core.sh with ⟨h1, h2, _⟩ | ⟨I, h1, h2, h3, h4, h5, _⟩
  · exact .inl ⟨h1, h2⟩
  · refine .inr ⟨I, h1, h2, ?_, fun e => by rw [e] at h3; simp at h3, fun L hL => by have := h5 L hL; omega⟩
    have := leaves_le T.ls (fun L hL => h5 L hL)
    unfold Tr.es at hn
    omega
end Go.Proofs.Qxb6615626a.BV
