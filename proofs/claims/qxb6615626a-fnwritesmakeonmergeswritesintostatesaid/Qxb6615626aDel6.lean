/-
  Delete (V = *Version).
-/
import Derived.Test.Qxb6615626aDel5
namespace Go.Proofs.Qxb6615626a.BV
open Go.RowKit
set_option linter.unusedVariables false

def DelPost (f : Sl → List UInt8) (K : Sl → Prop) (B eb : Nat) (T : Tr) (key : Sl) (w : World) (e : Ending) (w' : World) : Prop :=
  (∃ b : Bool, e = .returned (.bool b)) ∧ ∃ T', Ok f K B w' eb T' ∧ T'.es = del f (f key) T.es ∧ Fr (T.own eb) w w' ∧ (∀ k, T'.own eb k → T.own eb k ∨ w.heap.size ≤ k)

set_option maxRecDepth 20000 in
set_option maxHeartbeats 4000000 in
theorem Delete_inn (f : Sl → List UInt8) (K : Sl → Prop) (B eb : Nat) (T : Tr) (I : Inn) (key : Sl) (w : World) (h : Ok f K B w eb T) (hk : KOK f K B w) (hm : ∀ s, K s → s.n ≤ maxLen) (hn : T.es.length ≤ 7000) (hK : K key) (hI : T.inn = some I) :
    Calls Try.prog 52 #[.pointer (some ⟨eb, 0, none⟩), .slice key.a key.n key.c] w (DelPost f K B eb T key w) := by
  have HG := hide (get_any f K B eb T key w h hk hm hn hK)
  have hBe : B ≤ eb := h.core.low eb (.inl rfl)
  have hroot : T.root = some ⟨I.rb, 0, none⟩ := by unfold Tr.root; rw [hI]
  have hIe : ¬ I.own eb := by
    rcases h.core.sh with ⟨g1, _⟩ | ⟨I0, g1, _, _, _, _, _, g⟩
    · rw [hI] at g1; cases g1
    · rw [hI] at g1; cases g1; exact g
  have HO := hide h; have HK := hide hk; have HROOT := hide hroot
  clear h hk hroot
  go_enter Try.func52, Try.ntmps52
  go_wp2_with fail
  refine (unhide HG).mono ?_
  rintro e W1 ⟨v, rfl, hO1, hF1⟩
  cases hb : fnd f (kss T.es) (f key) with
  | false =>
    have HO1 := hide hO1; have HF1 := hide hF1; have HB := hide hb
    clear hO1 hF1 hb
    go_wp2_with fail
    go_ret
    exact ⟨⟨false, rfl⟩, T, unhide HO1, (del_not (unhide HO1).core.asc (unhide HB)).symm, (unhide HF1).mono (fun k _ e => .inl e), fun k hk => .inl hk⟩
  | true =>
    obtain ⟨nl, lo, hi, p, hE, _⟩ := hO1.ed
    have hk1 := (unhide HK).fr hF1 (fun k hk e => by omega)
    rw [unhide HROOT] at hE
    have hIA : I.At W1 T.seps (T.ls.map Lf.nb) := by
      rcases hO1.core.sh with ⟨g1, _⟩ | ⟨I0, g1, g, _⟩
      · rw [hI] at g1; cases g1
      · rw [hI] at g1; cases g1; exact g
    have c2 := hE.c2; have c3 := hE.c3; have c4 := hE.c4; have c5 := hE.c5; have c0 := hE.c0; have c1 := hE.c1
    have f2 := hE.fz 2; have f3 := hE.fz 3; have f4 := hE.fz 4; have f5 := hE.fz 5; have f0 := hE.fz 0
    obtain ⟨W2, hW2⟩ : ∃ W, W = (((W1.setCell ⟨eb, 2, none⟩ (.pointer none)).setCell ⟨eb, 3, none⟩ (.slice none 0 0)).setCell ⟨eb, 4, none⟩ (.slice none 0 0)).setCell ⟨eb, 5, none⟩ (.int .i64 0) := ⟨_, rfl⟩
    have E2 : EdAt W2 eb (some ⟨I.rb, 0, none⟩) none Sl.nil Sl.nil 0 := by rw [hW2]; exact hE.setNear none Sl.nil Sl.nil 0
    have F2 : Fr (fun k => k = eb) W1 W2 := by rw [hW2]; exact fr_near W1 eb _ _ _ _
    have I2 := hIA.fr F2 (fun k hk e => by subst e; exact hIe hk)
    have C2 : Core f K B W2 eb T := by
      have E2' : EdAt W2 eb T.root none Sl.nil Sl.nil 0 := by rw [unhide HROOT]; exact E2
      exact (hO1.near F2 E2' (by omega) (.inl rfl)).core
    have hk2 := hk1.fr F2 (fun k hk e => by omega)
    have d0 := E2.c0; have d1 := E2.c1; have df := E2.fz 0
    have i0 := I2.node.c0
    have hsame : ∀ m, (W2.drewN m).setCell ⟨eb, 0, none⟩ (.pointer (some ⟨I.rb, 0, none⟩)) = W2.drewN m := fun m => setCell_same _ _ _ _ d0
    have HF12 := hide (hF1.trans F2 (fun _ _ e => e))
    have HFULL := hide hO1.full
    have HE2 := hide E2; have HC2 := hide C2; have HK2 := hide hk2; have HB := hide hb; have HI2 := hide I2
    clear hO1 hF1 hk1 hE hIA E2 F2 I2 C2 hk2 hb
    go_upto_region 5 with fail
    rw [← hW2]
    clear c0 c1 c2 c3 c4 c5 f0 f2 f3 f4 f5 hW2
    go_wp2_with (go_at_call 70; refine (own_any eb I.rb _ (by exact i0) (by exact d1)).mono ?_; rintro e w2 ⟨rfl, m2, rfl⟩)
    have HD := hide (delete_inn f K B eb T I key (W2.drewN m2) ((unhide HC2).of_heap rfl) (unhide HFULL) (by exact unhide HK2) hK hn hI (by exact unhide HE2) (unhide HB))
    clear d0 d1 df i0 hsame
    refine (unhide HD).mono ?_
    rintro e W4 ⟨rfl, T', hC4, hfull4, hes4, hF4, hown4, hE4, hS4⟩
    have FW : Fr (T.own eb) w W4 := (((unhide HF12).mono (fun k _ e => .inl e)).drewN m2).trans hF4 (fun _ _ e => e)
    have hsz := (unhide HF12).size
    have hown : ∀ k, T'.own eb k → T.own eb k ∨ w.heap.size ≤ k := fun k hk => (hown4 k hk).imp id (fun e => by have e : W2.heap.size ≤ k := e; omega)
    have d0 := hE4.c0; have df := hE4.fz 0
    rcases hS4 with ⟨g1, g2, g3⟩ | ⟨g1, L', g2, g3⟩
    · have i4 := g2.node.c4
      rw [List.length_map] at i4
      have hd : ((T'.ls.length : Int) == 1) = false := by rw [beq_eq_false_iff_ne]; omega
      have HC4 := hide hC4; have HFULL4 := hide hfull4; have HES4 := hide hes4; have HFW := hide FW; have HOWN := hide hown; have HE4 := hide hE4; have HG1 := hide g1
      clear hC4 hfull4 hes4 FW hown hE4 g1 g2 g3 hF4 hown4 HD HE2 HC2 HK2 HI2
      go_wp2_with (go_at_call 81; refine (leaf_no I.rb _ _ _ _ i4).mono ?_; rintro e w1 ⟨rfl, hw1⟩; rw [hw1]; clear hw1 w1)
      go_ret
      refine ⟨⟨true, rfl⟩, T', ⟨unhide HC4, unhide HFULL4, none, Sl.nil, Sl.nil, 0, ?_, by omega, .inl rfl⟩, unhide HES4, unhide HFW, unhide HOWN⟩
      have : T'.root = some ⟨I.rb, 0, none⟩ := by unfold Tr.root; rw [unhide HG1]
      rw [this]; exact unhide HE4
    · have i4 := g3.node.c4
      have k4 := g3.kid 0 (by simp)
      have hLm : L' ∈ T'.ls := by rw [g2]; simp
      have HC4 := hide hC4; have HFULL4 := hide hfull4; have HES4 := hide hes4; have HFW := hide FW; have HOWN := hide hown; have HE4 := hide hE4; have HG1 := hide g1; have HG2 := hide g2
      clear hC4 hfull4 hes4 FW hown hE4 g1 g2 g3 hF4 hown4 HD HE2 HC2 HK2 HI2
      go_wp2_with (go_at_call 81; refine (leaf_no I.rb _ _ _ _ i4).mono ?_; rintro e w1 ⟨rfl, hw1⟩; rw [hw1]; clear hw1 w1)
      go_ret
      have F5 : Fr (fun k => k = eb) W4 (W4.setCell ⟨eb, 0, none⟩ (.pointer (some ⟨L'.nb, 0, none⟩))) := (Fr.refl _ W4).setCell ⟨eb, 0, none⟩ _ (fun _ => rfl)
      have hC := unhide HC4
      refine ⟨⟨true, rfl⟩, T', ⟨⟨fun L hL => (hC.lf L hL).fr F5 (fun k hk e => by subst e; exact hC.ne L hL hk), ?_, hC.pw, hC.ne, hC.low, Nat.lt_of_lt_of_le hC.elt F5.size, hC.kk, hC.sk, hC.asc, hC.sl, hC.sr, hC.sa⟩, unhide HFULL4, none, Sl.nil, Sl.nil, 0, ?_, by omega, .inl rfl⟩, unhide HES4, (unhide HFW).trans F5 (fun k _ e => .inl e), unhide HOWN⟩
      · rcases hC.sh with g | ⟨J, g, _⟩
        · exact .inl g
        · rw [unhide HG1] at g; cases g
      · have : T'.root = some ⟨L'.nb, 0, none⟩ := by unfold Tr.root; rw [unhide HG1, unhide HG2]
        rw [this]; exact (unhide HE4).set0 _

set_option maxRecDepth 20000 in
set_option maxHeartbeats 4000000 in
theorem Delete_lf (f : Sl → List UInt8) (K : Sl → Prop) (B eb : Nat) (T : Tr) (key : Sl) (w : World) (h : Ok f K B w eb T) (hk : KOK f K B w) (hm : ∀ s, K s → s.n ≤ maxLen) (hn : T.es.length ≤ 7000) (hK : K key) (hI : T.inn = none) :
    Calls Try.prog 52 #[.pointer (some ⟨eb, 0, none⟩), .slice key.a key.n key.c] w (DelPost f K B eb T key w) := by
  have HG := hide (get_any f K B eb T key w h hk hm hn hK)
  have hBe : B ≤ eb := h.core.low eb (.inl rfl)
  have HO := hide h; have HK := hide hk
  clear h hk
  go_enter Try.func52, Try.ntmps52
  go_wp2_with fail
  refine (unhide HG).mono ?_
  rintro e W1 ⟨v, rfl, hO1, hF1⟩
  cases hb : fnd f (kss T.es) (f key) with
  | false =>
    have HO1 := hide hO1; have HF1 := hide hF1; have HB := hide hb
    clear hO1 hF1 hb
    go_wp2_with fail
    go_ret
    exact ⟨⟨false, rfl⟩, T, unhide HO1, (del_not (unhide HO1).core.asc (unhide HB)).symm, (unhide HF1).mono (fun k _ e => .inl e), fun k hk => .inl hk⟩
  | true =>
    obtain ⟨L, hls⟩ : ∃ L, T.ls = [L] := by
      rcases hO1.core.sh with ⟨g1, g2, g3⟩ | ⟨J, g, _⟩
      · cases hl : T.ls with
        | nil =>
          have : T.es = [] := by unfold Tr.es; rw [hl]; rfl
          rw [this] at hb
          simp [fnd, kss] at hb
        | cons L ls =>
          rw [hl] at g2
          have : ls = [] := by simp at g2; exact g2
          subst this; exact ⟨L, rfl⟩
      · rw [hI] at g; cases g
    have hroot : T.root = some ⟨L.nb, 0, none⟩ := by unfold Tr.root; rw [hI, hls]
    have hes : T.es = L.es := by unfold Tr.es; rw [hls]; simp
    have hLm : L ∈ T.ls := by rw [hls]; simp
    obtain ⟨nl, lo, hi, p, hE, _⟩ := hO1.ed
    have hk1 := (unhide HK).fr hF1 (fun k hk e => by omega)
    rw [hroot] at hE
    have hLA := hO1.core.lf L hLm
    have hLe := hO1.core.ne L hLm
    have c2 := hE.c2; have c3 := hE.c3; have c4 := hE.c4; have c5 := hE.c5; have c0 := hE.c0; have c1 := hE.c1
    have f2 := hE.fz 2; have f3 := hE.fz 3; have f4 := hE.fz 4; have f5 := hE.fz 5; have f0 := hE.fz 0
    obtain ⟨W2, hW2⟩ : ∃ W, W = (((W1.setCell ⟨eb, 2, none⟩ (.pointer none)).setCell ⟨eb, 3, none⟩ (.slice none 0 0)).setCell ⟨eb, 4, none⟩ (.slice none 0 0)).setCell ⟨eb, 5, none⟩ (.int .i64 0) := ⟨_, rfl⟩
    have E2 : EdAt W2 eb (some ⟨L.nb, 0, none⟩) none Sl.nil Sl.nil 0 := by rw [hW2]; exact hE.setNear none Sl.nil Sl.nil 0
    have F2 : Fr (fun k => k = eb) W1 W2 := by rw [hW2]; exact fr_near W1 eb _ _ _ _
    have L2 := hLA.fr F2 (fun k hk e => by subst e; exact hLe hk)
    have hk2 := hk1.fr F2 (fun k hk e => by omega)
    have d0 := E2.c0; have d1 := E2.c1; have df := E2.fz 0
    have i0 := L2.node.c0
    have hsame : ∀ m, (W2.drewN m).setCell ⟨eb, 0, none⟩ (.pointer (some ⟨L.nb, 0, none⟩)) = W2.drewN m := fun m => setCell_same _ _ _ _ d0
    have C2 : Core f K B W2 eb T := by
      have E2' : EdAt W2 eb T.root none Sl.nil Sl.nil 0 := by rw [hroot]; exact E2
      exact (hO1.near F2 E2' (by omega) (.inl rfl)).core
    have HF12 := hide (hF1.trans F2 (fun _ _ e => e))
    have HFULL := hide (hO1.full L hLm)
    have HE2 := hide E2; have HC2 := hide C2; have HK2 := hide hk2; have HB := hide hb; have HL2 := hide L2; have HROOT := hide hroot; have HES := hide hes; have HLS := hide hls
    clear hO1 hF1 hk1 hE hLA E2 F2 L2 C2 hk2 hb hroot hes hls
    go_upto_region 5 with fail
    rw [← hW2]
    clear c0 c1 c2 c3 c4 c5 f0 f2 f3 f4 f5 hW2
    go_wp2_with (go_at_call 70; refine (own_any eb L.nb _ (by exact i0) (by exact d1)).mono ?_; rintro e w2 ⟨rfl, m2, rfl⟩)
    have hasc : AscE f L.es := by rw [← unhide HES]; exact (unhide HC2).asc
    have HD := hide (delete_leaf f L eb key (W2.drewN m2) ((unhide HL2).of_heap rfl) (unhide HFULL) (fun e he => by exact (unhide HK2 _ ((unhide HC2).kk L hLm e he)).1) (by exact (unhide HK2 key hK).1) hasc (by rw [← unhide HES]; exact unhide HB))
    clear d0 d1 df i0 hsame hasc
    refine (unhide HD).mono ?_
    rintro e W4 ⟨rfl, hL4, hF4⟩
    obtain ⟨es', hes'⟩ : ∃ es', es' = Qxb6615626a.del f (f key) L.es := ⟨_, rfl⟩
    rw [← hes'] at hL4
    have hF24 : Fr L.own W2 W4 := ⟨hF4.os, hF4.tape, hF4.output, hF4.size, hF4.block⟩
    have E4 := (unhide HE2).fr hF24 hLe
    have d0 := E4.c0; have i4 := hL4.node.c4
    have HL4 := hide hL4; have HF24 := hide hF24; have HES' := hide hes'; have HE4 := hide E4
    clear hL4 hF4 hF24 hes' E4 HD
    go_wp2_with (go_at_call 81; refine (leaf_yes L.nb _ i4).mono ?_; rintro e w1 ⟨rfl, hw1⟩; rw [hw1]; clear hw1 w1)
    go_ret
    have hsub : List.Sublist es' L.es := by rw [unhide HES']; exact del_sub _ _
    obtain ⟨a1, a2⟩ := (unhide HC2).less (A := []) (C := []) (L' := { L with es := es' }) (unhide HLS) (unhide HL4) rfl hsub (fun k hk => .inl hk) ((unhide HF24).mono (fun k _ e => .inl e)) (.inl hI)
    have hsz := (unhide HF12).size
    refine ⟨⟨true, rfl⟩, _, ⟨a1, ?_, none, Sl.nil, Sl.nil, 0, ?_, by omega, .inl rfl⟩, ?_, ?_, fun k hk => (a2 k hk).imp id (fun e => by omega)⟩
    · intro M hM
      have : M = { L with es := es' } := by simpa using hM
      subst this
      have := hsub.length_le; have := unhide HFULL
      show es'.length ≤ 256
      omega
    · have : Tr.root { T with ls := [] ++ ({ L with es := es' } : Lf) :: [] } = some ⟨L.nb, 0, none⟩ := by unfold Tr.root; simp only [hI]; rfl
      rw [this]; exact unhide HE4
    · unfold Tr.es
      show ([] ++ ({ L with es := es' } : Lf) :: []).flatMap Lf.es = _
      have e2 : T.ls.flatMap Lf.es = L.es := unhide HES
      rw [e2, ← unhide HES']; simp
    · exact ((unhide HF12).mono (fun k _ e => .inl e)).trans (unhide HF24) (fun k _ e => .inr (.inl ⟨L, hLm, e⟩))

theorem Delete_any (f : Sl → List UInt8) (K : Sl → Prop) (B eb : Nat) (T : Tr) (key : Sl) (w : World) (h : Ok f K B w eb T) (hk : KOK f K B w) (hm : ∀ s, K s → s.n ≤ maxLen) (hn : T.es.length ≤ 7000) (hK : K key) :
    Calls Try.prog 52 #[.pointer (some ⟨eb, 0, none⟩), .slice key.a key.n key.c] w (DelPost f K B eb T key w) := by
  cases hI : T.inn with
  | none => exact Delete_lf f K B eb T key w h hk hm hn hK hI
  | some I => exact Delete_inn f K B eb T I key w h hk hm hn hK hI
end Go.Proofs.Qxb6615626a.BV
