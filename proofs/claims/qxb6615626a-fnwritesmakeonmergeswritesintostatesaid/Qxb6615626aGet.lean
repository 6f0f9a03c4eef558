/-
  Finger.reach, Tree.GetNear, Editor.Get (V = *Version).
-/
import Derived.Test.Qxb6615626aFst2
namespace Go.Proofs.Qxb6615626a.BV
open Go.RowKit
set_option linter.unusedVariables false

/-- what reach leaves -/
def ReachPost (f : Sl → List UInt8) (T : Tr) (key : Sl) (eb : Nat) (w : World) (e : Ending) (w' : World) : Prop :=
  e = .returned (.tuple #[]) ∧ ∃ A L C, Place f T (f key) A L C ∧ EdAt w' eb T.root (some ⟨L.nb, 0, none⟩) (loOf T.seps A.length Sl.nil) (hiOf T.seps A.length Sl.nil) 0 ∧ Fr (fun k => k = eb) w w'

set_option maxRecDepth 20000 in
set_option maxHeartbeats 2000000 in
theorem reach_leaf (f : Sl → List UInt8) (K : Sl → Prop) (B eb : Nat) (T : Tr) (L : Lf) (key : Sl) (w : World) (h : Ok f K B w eb T) (hI : T.inn = none) (hl : T.ls = [L]) :
    Calls Try.prog 119 #[.pointer (some ⟨eb, 2, none⟩), .pointer (some ⟨L.nb, 0, none⟩), .slice key.a key.n key.c] w (ReachPost f T key eb w) := by
  obtain ⟨nl, lo, hi, p, hE, _⟩ := h.ed
  have d4 := (h.core.lf L (by rw [hl]; simp)).node.c4
  have hs : T.seps = [] := by
    rcases h.core.sh with ⟨_, _, g⟩ | ⟨J, g, _⟩
    · exact g
    · rw [hI] at g; cases g
  have q2 := hE.c2; have q3 := hE.c3; have q4 := hE.c4; have q5 := hE.c5
  have f2 := hE.fz 2; have f3 := hE.fz 3; have f4 := hE.fz 4; have f5 := hE.fz 5
  have HE := hide hE; have HS := hide hs; have HL := hide hl
  clear hE h hs hl
  go_enter Try.func119, Try.ntmps119
  go_wp2_with fail
  refine wp_loop_rounds 1 ?_
  rw [rounds_succ]
  go_wp2_with (go_at_call 81; refine (leaf_yes L.nb _ d4).mono ?_; rintro e w1 ⟨rfl, hw1⟩; rw [hw1]; clear hw1 w1)
  go_end0
  refine ⟨rfl, [], L, [], ⟨unhide HL, fun j s hs => by rw [unhide HS] at hs; simp at hs, fun j s hs => by rw [unhide HS] at hs; simp at hs⟩, ?_, fr_near w eb _ _ _ _⟩
  have := (unhide HE).setNear (some ⟨L.nb, 0, none⟩) Sl.nil Sl.nil 0
  rw [unhide HS]
  exact this

set_option maxRecDepth 20000 in
set_option maxHeartbeats 2000000 in
theorem reach_inn (f : Sl → List UInt8) (K : Sl → Prop) (B eb : Nat) (T : Tr) (I : Inn) (key : Sl) (w : World) (h : Ok f K B w eb T) (hk : KOK f K B w) (hn : T.es.length ≤ 7000) (hI : T.inn = some I) (hkey : Byt w key (f key)) :
    Calls Try.prog 119 #[.pointer (some ⟨eb, 2, none⟩), .pointer (some ⟨I.rb, 0, none⟩), .slice key.a key.n key.c] w (ReachPost f T key eb w) := by
  obtain ⟨nl, lo, hi, p, hE, _⟩ := h.ed
  obtain ⟨hIA, hsl, h128⟩ : I.At w T.seps (T.ls.map Lf.nb) ∧ T.seps.length + 1 = T.ls.length ∧ (∀ L ∈ T.ls, 128 ≤ L.es.length) := by
    rcases h.core.sh with ⟨g, _⟩ | ⟨J, h1, h2, h3, h4, h5, _⟩
    · rw [g] at hI; cases hI
    · rw [h1] at hI; cases hI; exact ⟨h2, h4, h5⟩
  have hlen : T.ls.length ≤ 60 := by have := leaves_le T.ls h128; unfold Tr.es at hn; omega
  have HRT := hide (route_any I.rb I.kb I.kc T.seps f key w (by omega) hIA.node.c2 hIA.key (fun s hs => (hk s (h.core.sk s hs).1).1) hkey h.core.sa)
  have d4 := hIA.node.c4
  have hcl : (T.ls.map Lf.nb).length = T.ls.length := by simp
  have HIA := hide hIA; have H := hide h; have HE := hide hE
  clear hk hkey h hIA hE
  go_enter Try.func119, Try.ntmps119
  go_wp2_with fail
  refine wp_loop_rounds 2 ?_
  rw [rounds_succ]
  go_wp2_with (go_at_call 81; refine (leaf_no I.rb _ _ _ _ d4).mono ?_; rintro e w1 ⟨rfl, hw1⟩; rw [hw1]; clear hw1 w1)
  refine (unhide HRT).mono ?_
  rintro e W1 ⟨i, rfl, hU, n1, hW1⟩
  obtain ⟨A, L, C, hP, hAi⟩ := place_of hU hsl
  have hLm : L ∈ T.ls := by rw [hP.ls]; simp
  have hil : i < T.ls.length := by rw [hP.ls]; simp; omega
  have F1 : Fr (fun _ => False) w W1 := by rw [hW1]; exact (Fr.refl _ w).drewN n1
  have I1 := (unhide HIA).fr F1 (fun _ _ e => e)
  have E1 := (unhide HE).fr F1 (fun e => e)
  have L1 := ((unhide H).core.lf L hLm).fr F1 (fun _ _ e => e)
  have HBD := hide (bounds_any I.rb I.kb I.kc T.seps i Sl.nil Sl.nil W1 (by omega) (by omega) I1.node.c2 I1.key)
  have q4 := I1.node.c4
  have qk : W1.cell? ⟨I.cb, i, none⟩ = some (.pointer (some ⟨L.nb, 0, none⟩)) := by
    have := I1.kid i (by rw [hcl]; omega)
    rw [this]
    congr 3
    simp [hP.ls, hAi]
  rw [hcl] at q4
  have ql := L1.node.c4
  have e2 := E1.c2; have e3 := E1.c3; have e4 := E1.c4; have e5 := E1.c5
  have f2 := E1.fz 2; have f3 := E1.fz 3; have f4 := E1.fz 4; have f5 := E1.fz 5
  have HE1 := hide E1; have HP := hide hP; have HAI := hide hAi; have HF1 := hide F1
  clear hU hW1 F1 I1 E1 L1 hP hAi d4 hcl
  obtain ⟨bl, hbl⟩ : ∃ s, s = loOf T.seps i Sl.nil := ⟨_, rfl⟩
  obtain ⟨bh, hbh⟩ : ∃ s, s = hiOf T.seps i Sl.nil := ⟨_, rfl⟩
  rw [← hbl, ← hbh] at HBD
  have HBL := hide hbl; have HBH := hide hbh
  clear hbl hbh
  go_wp2_with fail
  refine (unhide HBD).mono ?_
  rintro e w1 ⟨rfl, hw1⟩
  rw [hw1]; clear hw1 w1
  go_wp2_with fail
  rw [rounds_succ]
  go_wp2_with (go_at_call 81; refine (leaf_yes L.nb _ ql).mono ?_; rintro e w1 ⟨rfl, hw1⟩; rw [hw1]; clear hw1 w1)
  go_end0
  refine ⟨rfl, A, L, C, unhide HP, ?_, ((unhide HF1).mono (fun _ _ e => e.elim)).trans (fr_near W1 eb _ _ _ _) (fun _ _ e => e)⟩
  have := (unhide HE1).setNear (some ⟨L.nb, 0, none⟩) bl bh 0
  rw [unhide HAI, ← unhide HBL, ← unhide HBH]
  exact this

def GetPost (f : Sl → List UInt8) (K : Sl → Prop) (B eb : Nat) (T : Tr) (key : Sl) (w : World) (e : Ending) (w' : World) : Prop :=
  ∃ v, e = .returned (.tuple #[.pointer v, .bool (fnd f (kss T.es) (f key))]) ∧ Ok f K B w' eb T ∧ Fr (fun k => k = eb) w w'

theorem Place.fnd {f : Sl → List UInt8} {K : Sl → Prop} {B : Nat} {w : World} {eb : Nat} {T : Tr} {k : List UInt8} {A : List Lf} {L : Lf} {C : List Lf} (P : Place f T k A L C) (h : Core f K B w eb T) : Qxb6615626a.fnd f (kss T.es) k = Qxb6615626a.fnd f (kss L.es) k := by
  have hes : T.es = A.flatMap Lf.es ++ L.es ++ C.flatMap Lf.es := by unfold Tr.es; rw [P.ls, List.flatMap_append, List.flatMap_cons, List.append_assoc]
  rw [hes]
  exact fnd_app k (P.below h) (P.above h)

theorem Place.asc {f : Sl → List UInt8} {K : Sl → Prop} {B : Nat} {w : World} {eb : Nat} {T : Tr} {k : List UInt8} {A : List Lf} {L : Lf} {C : List Lf} (P : Place f T k A L C) (h : Core f K B w eb T) : AscE f L.es := by
  have := h.asc
  have hes : T.es = A.flatMap Lf.es ++ L.es ++ C.flatMap Lf.es := by unfold Tr.es; rw [P.ls, List.flatMap_append, List.flatMap_cons, List.append_assoc]
  rw [hes] at this
  exact (List.pairwise_append.1 (List.pairwise_append.1 this).1).2.1

/-- the tree with another finger -/
theorem Ok.near {f : Sl → List UInt8} {K : Sl → Prop} {B : Nat} {w w' : World} {eb : Nat} {T : Tr} (h : Ok f K B w eb T) (hf : Fr (fun k => k = eb) w w') {nl : Option Addr} {lo hi : Sl} {p : Nat} (hE : EdAt w' eb T.root nl lo hi p) (hp : p ≤ 1000)
    (hn : nl = none ∨ ∃ (j : Nat) (L : Lf), T.ls[j]? = some L ∧ nl = some ⟨L.nb, 0, none⟩ ∧ lo = loOf T.seps j Sl.nil ∧ hi = hiOf T.seps j Sl.nil) : Ok f K B w' eb T := by
  refine ⟨⟨fun L hL => (h.core.lf L hL).fr hf (fun k hk e => by subst e; exact h.core.ne L hL hk), ?_, h.core.pw, h.core.ne, h.core.low, Nat.lt_of_lt_of_le h.core.elt hf.size, h.core.kk, h.core.sk, h.core.asc, h.core.sl, h.core.sr, h.core.sa⟩, h.full, nl, lo, hi, p, hE, hp, hn⟩
  rcases h.core.sh with g | ⟨I, h1, h2, h3, h4, h5, h6, h7⟩
  · exact .inl g
  · exact .inr ⟨I, h1, h2.fr hf (fun k hk e => by subst e; exact h7 hk), h3, h4, h5, h6, h7⟩

/-- at a leaf's place i: the value, if the key is there -/
def atPlace (L : Lf) (i : Nat) (b : Bool) : Option Addr := if b then ((L.es[i]?).map (·.2)).getD none else none
end Go.Proofs.Qxb6615626a.BV
