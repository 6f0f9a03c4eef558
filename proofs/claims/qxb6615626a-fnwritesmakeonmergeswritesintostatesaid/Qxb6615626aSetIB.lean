/-
  set at an inner root (V by the namespace).
-/
import Derived.Test.Qxb6615626aNearB
namespace Go.Proofs.Qxb6615626a.BV
open Go.RowKit
set_option linter.unusedVariables false

theorem setCell_same (w : World) (b o : Nat) (v : Value) (h : w.cell? ⟨b, o, none⟩ = some v) : w.setCell ⟨b, o, none⟩ v = w := by
  cases hx : w.heap[b]? with
  | none => simp [World.cell?, hx] at h
  | some x =>
    cases x with
    | cells c e fz =>
      simp [World.cell?, hx] at h
      rw [setCell_eq_setRow w b o c e fz v hx]
      have : c.setIfInBounds o v = c := by
        apply Array.ext_getElem?
        intro k
        by_cases hk : o = k
        · subst hk
          obtain ⟨h1, h2⟩ := Array.getElem?_eq_some_iff.1 h
          simp [h1, h2]
        · simp [hk]
      rw [this]
      exact setRow_self w b c e fz hx
    | _ => simp [World.cell?, hx] at h

theorem place_of_route {f : Sl → List UInt8} {K : Sl → Prop} {B : Nat} {w : World} {eb : Nat} {T : Tr} (h : Core f K B w eb T) (k : List UInt8) (j : Nat) (L : Lf) (hj : T.ls[j]? = some L) (hu : UB f T.seps k j) :
    Place f T k (T.ls.take j) L (T.ls.drop (j + 1)) := by
  have hjl : j < T.ls.length := (List.getElem?_eq_some_iff.1 hj).1
  have hlen : (T.ls.take j).length = j := by rw [List.length_take]; omega
  refine ⟨?_, ?_, ?_⟩
  · have : T.ls[j] = L := by rw [List.getElem?_eq_getElem hjl] at hj; exact Option.some.inj hj
    rw [← this, ← List.drop_eq_getElem_cons hjl, List.take_append_drop]
  · intro i s hs hi
    rw [hlen] at hi
    obtain ⟨his, rfl⟩ := List.getElem?_eq_some_iff.1 hs
    exact hu.below i his hi
  · intro i s hs hi
    rw [hlen] at hi
    obtain ⟨his, rfl⟩ := List.getElem?_eq_some_iff.1 hs
    exact hu.above i his hi

theorem leaves_le : ∀ ls : List Lf, (∀ L ∈ ls, 128 ≤ L.es.length) → ls.length * 128 ≤ (ls.flatMap Lf.es).length
  | [], _ => by simp
  | L :: ls, h => by
    have ih := leaves_le ls (fun M hM => h M (by simp [hM]))
    have := h L (by simp)
    rw [List.flatMap_cons, List.length_append, List.length_cons]; omega

/-- what Set and set leave -/
def SetPost (f : Sl → List UInt8) (K : Sl → Prop) (B : Nat) (eb : Nat) (T : Tr) (key : Sl) (x : Option Addr) (w : World) (e : Ending) (w' : World) : Prop :=
  (∃ v1 v2, e = .returned (.tuple #[v1, v2])) ∧ ∃ T', Ok f K B w' eb T' ∧ T'.es = ins f key x T.es ∧ Fr (T.own eb) w w' ∧ (∀ k, T'.own eb k → T.own eb k ∨ w.heap.size ≤ k)

set_option maxHeartbeats 2000000 in
theorem set_inner (f : Sl → List UInt8) (K : Sl → Prop) (B : Nat) (eb : Nat) (T : Tr) (I : Inn) (key : Sl) (x : Option Addr) (w : World) (h : Ok f K B w eb T) (hk : KOK f K B w) (hm : ∀ s, K s → s.n ≤ maxLen) (hK : K key) (hI : T.inn = some I) (hn : T.es.length ≤ 7000) :
    Calls Try.prog 71 #[.pointer (some ⟨eb, 0, none⟩), .pointer (some ⟨I.rb, 0, none⟩), key.v, Value.pointer x, .slice none 0 0, .slice none 0 0] w (SetPost f K B eb T key x w) := by
  obtain ⟨nl, lo, hi, p, hE, hp, hnear⟩ := h.ed
  have hroot : T.root = some ⟨I.rb, 0, none⟩ := by unfold Tr.root; rw [hI]
  rw [hroot] at hE
  obtain ⟨hIA, h2, hsl, h128, hap, hIe⟩ : I.At w T.seps (T.ls.map Lf.nb) ∧ 2 ≤ T.ls.length ∧ T.seps.length + 1 = T.ls.length ∧ (∀ L ∈ T.ls, 128 ≤ L.es.length) ∧ (∀ L ∈ T.ls, ∀ k, L.own k → ¬ I.own k) ∧ ¬ I.own eb := by
    rcases h.core.sh with ⟨g1, _⟩ | ⟨I0, g1, g⟩
    · rw [hI] at g1; cases g1
    · rw [hI] at g1; cases g1; exact g
  have hsz : T.ls.length ≤ 60 := by have := leaves_le T.ls h128; unfold Tr.es at hn; omega
  have hsa : T.seps.length + 1 ≤ T.ls.length := by omega
  have hsb : T.ls.length ≤ T.seps.length + 1 := by omega
  clear hsl
  have n2 := hIA.node.c2; have n4 := hIA.node.c4
  have HRO := hide (route_any I.rb I.kb I.kc T.seps f key w (by omega) n2 hIA.key (fun s hs => (hk s (h.core.sk s hs).1).1) (hk key hK).1 h.core.sa)
  have HO := hide h; have HE := hide hE; have HIA := hide hIA; have HAP := hide hap; have HK := hide hk
  clear h hE hIA hnear hk hap h128
  go_enter Try.func71, Try.ntmps71
  go_wp2_with (go_at_call 81; refine (leaf_no I.rb _ _ _ _ n4).mono ?_; rintro e w1 ⟨rfl, hw1⟩; rw [hw1]; clear hw1 w1)
  refine (unhide HRO).mono ?_
  rintro e w1 ⟨i, rfl, hub, m1, rfl⟩
  have hile := hub.le
  have hil : i < T.ls.length := by omega
  obtain ⟨L, hL⟩ : ∃ L, L = T.ls[i] := ⟨_, rfl⟩
  have hLi : T.ls[i]? = some L := by rw [hL]; exact List.getElem?_eq_getElem hil
  have hLm : L ∈ T.ls := List.mem_of_getElem? hLi
  have hkid : w.cell? ⟨I.cb, i, none⟩ = some (.pointer (some ⟨L.nb, 0, none⟩)) := by
    have := (unhide HIA).kid i (by rw [List.length_map]; exact hil)
    rw [List.getElem_map, ← hL] at this; exact this
  have hfz := (unhide HIA).kids.frozen i
  have hLat := (unhide HO).core.lf L hLm
  have l0 := hLat.node.c0
  have e1 := (unhide HE).c1
  have PL := place_of_route (unhide HO).core (f key) i L hLi hub
  have hcl : (T.ls.map Lf.nb).length = T.ls.length := List.length_map ..
  rw [hcl] at n4
  have HUB := hide hub; have HL := hide hL; have HLI := hide hLi; have HLA := hide hLat; have HP := hide PL
  clear hub hL hLi hLat PL HRO hcl
  have hsame : ∀ m, (w.drewN m).setCell ⟨I.cb, i, none⟩ (.pointer (some ⟨L.nb, 0, none⟩)) = w.drewN m := fun m => setCell_same _ _ _ _ hkid
  go_wp2_with (go_at_call 70; refine (own_any eb L.nb _ (by exact l0) (by exact e1)).mono ?_; rintro e w2 ⟨rfl, m2, rfl⟩)
  refine (bounds_any I.rb I.kb I.kc T.seps i ⟨none, 0, 0⟩ ⟨none, 0, 0⟩ _ (by omega) hile (by exact n2) (by exact (unhide HIA).key)).mono ?_
  rintro e w3 ⟨rfl, hw3⟩
  rw [hw3]
  clear hw3 w3
  obtain ⟨lo', hlo'⟩ : ∃ s, s = loOf T.seps i ⟨none, 0, 0⟩ := ⟨_, rfl⟩
  obtain ⟨hi', hhi'⟩ : ∃ s, s = hiOf T.seps i ⟨none, 0, 0⟩ := ⟨_, rfl⟩
  rw [← hlo', ← hhi']
  have HLO := hide hlo'; have HHI := hide hhi'
  clear hlo' hhi'
  go_wp2_with fail
  have hlen := (unhide HO).full L (by exact hLm)
  have hne := (unhide HO).core.ne L hLm
  have hasc : AscE f L.es := by
    have := (unhide HO).core.asc; unfold Tr.es at this; rw [(unhide HP).ls, List.flatMap_append, List.flatMap_cons, ← List.append_assoc] at this
    exact asc_es_mid this
  refine (set_leaf f L eb _ nl lo hi lo' hi' key p x (w.drewN (m1 + m2)) (by exact (unhide HLA).of_heap rfl) (by exact (unhide HE)) (fun k hk he => hne (he ▸ hk)) (by omega) (fun e he => by exact ((unhide HK) _ ((unhide HO).core.kk L hLm e he)).1) (by exact ((unhide HK) key hK).1) hasc).mono ?_
  rintro e w4 ⟨⟨v1, v2, rfl⟩, ⟨nb', kb', kc', vb', vc', es'⟩, q, hL', hnb, hes, hE', hq, hF, hown⟩
  have hnb' : nb' = L.nb := hnb
  subst hnb'
  have k2 := hL'.node.c2; have k4 := hL'.node.c4
  have hes' : es' = ins f key x L.es := hes
  have hF1 : Fr (fun k => L.own k ∨ k = eb) w w4 := ⟨hF.os, hF.tape, hF.output, hF.size, hF.block⟩
  have HLA' := hide hL'; have HES := hide hes'; have HE' := hide hE'; have HF := hide hF1; have HOWN := hide hown; have HASC := hide hasc
  clear hL' hnb hes hes' hE' hF hF1 hown hasc n2 n4 hkid hfz l0 e1 hsame
  have hlen' : es'.length ≤ 257 := by have := (length_ins (f := f) key x L.es).2; rw [unhide HES]; omega
  by_cases hov : es'.length ≤ 256
  · have hd : decide ((256 : Int) < (es'.length : Int)) = false := by rw [decide_eq_false_iff_not]; omega
    have HOV := hide hov; have HLN := hide hlen'
    clear hov hlen' hlen
    go_wp2_with (first | (go_at_call 72; refine (size_leaf L.nb _ _ _ _ k2 k4).mono ?_; rintro e w5 ⟨rfl, hw5⟩; rw [hw5]; clear hw5 w5) | (go_at_call 73; refine (most_leaf L.nb _ k4).mono ?_; rintro e w5 ⟨rfl, hw5⟩; rw [hw5]; clear hw5 w5))
    go_ret2
    refine ⟨⟨_, _, rfl⟩, (unhide HO).repl (L' := ⟨L.nb, kb', kc', vb', vc', es'⟩) (unhide HP) hK (unhide HLA') rfl (unhide HES) (unhide HF) (unhide HOWN) (unhide HOV) _ _ _ q (by rw [hroot]; exact unhide HE') hq ⟨rfl, ?_, ?_⟩⟩
    · rw [unhide HLO, List.length_take, Nat.min_eq_left (by omega)]; rfl
    · rw [unhide HHI, List.length_take, Nat.min_eq_left (by omega)]; rfl
  · have hd : decide ((256 : Int) < (es'.length : Int)) = true := by rw [decide_eq_true_iff]; omega
    have he57 : es'.length = 257 := by omega
    have HOV := hide hov; have HLN := hide hlen'; have H57 := hide he57
    clear hov hlen' hlen he57
    have q2 := (unhide HE').c2; have q3 := (unhide HE').c3; have q4 := (unhide HE').c4; have q5 := (unhide HE').c5
    have g2 := (unhide HE').fz 2; have g3 := (unhide HE').fz 3; have g4 := (unhide HE').fz 4; have g5 := (unhide HE').fz 5
    go_wp2_with (first | (go_at_call 72; refine (size_leaf L.nb _ _ _ _ k2 k4).mono ?_; rintro e w5 ⟨rfl, hw5⟩; rw [hw5]; clear hw5 w5) | (go_at_call 73; refine (most_leaf L.nb _ k4).mono ?_; rintro e w5 ⟨rfl, hw5⟩; rw [hw5]; clear hw5 w5))
    obtain ⟨W5, hW5⟩ : ∃ W, W = (((w4.setCell ⟨eb, 2, none⟩ (.pointer none)).setCell ⟨eb, 3, none⟩ (.slice none 0 0)).setCell ⟨eb, 4, none⟩ (.slice none 0 0)).setCell ⟨eb, 5, none⟩ (.int .i64 0) := ⟨_, rfl⟩
    rw [← hW5]
    have E5 : EdAt W5 eb (some ⟨I.rb, 0, none⟩) none Sl.nil Sl.nil 0 := by rw [hW5]; exact (unhide HE').setNear none Sl.nil Sl.nil 0
    have F5 : Fr (fun k => k = eb) w4 W5 := by rw [hW5]; exact fr_near w4 eb _ _ _ _
    have hLne : ∀ k, (⟨L.nb, kb', kc', vb', vc', es'⟩ : Lf).own k → k ≠ eb := fun k hk he => by
      subst he
      rcases unhide HOWN k hk with e | e
      · exact hne e
      · have := (unhide HE).lt; have h2 : w.heap.size ≤ k := e; omega
    have L5 : Lf.At W5 ⟨L.nb, kb', kc', vb', vc', es'⟩ := (unhide HLA').fr F5 hLne
    have I4 : I.At w4 T.seps (T.ls.map Lf.nb) := (unhide HIA).fr (unhide HF) (fun k hk hx => by
      rcases hx with e | e
      · exact unhide HAP L hLm k e hk
      · subst e; exact hIe hk)
    have I5 : I.At W5 T.seps (T.ls.map Lf.nb) := I4.fr F5 (fun k hk e => by subst e; exact hIe hk)
    have hLI : ∀ k, I.own k → ¬ (⟨L.nb, kb', kc', vb', vc', es'⟩ : Lf).own k := fun k hk hk' => by
      rcases unhide HOWN k hk' with e | e
      · exact unhide HAP L hLm k e hk
      · have := (unhide HIA).lt k hk; have h2 : w.heap.size ≤ k := e; omega
    have H5 := hide hW5; have HE5 := hide E5; have HF5 := hide F5; have HL5 := hide L5; have HI5 := hide I5; have HLI := hide hLI; have HLNE := hide hLne; have HI4 := hide I4
    clear hW5 E5 F5 L5 I5 hLI hLne I4 q2 q3 q4 q5 g2 g3 g4 g5 k2 k4
    refine (split_leaf ⟨L.nb, kb', kc', vb', vc', es'⟩ eb W5 (unhide HL5) (unhide HE5).c1 ((unhide HLNE) L.nb (.inl rfl)).symm (by have := unhide H57; show 2 ≤ es'.length; omega) (by have := unhide H57; show es'.length ≤ 500; omega)).mono ?_
    rintro e w6 ⟨L1, R, rfl, hL1, hR, hn1, hs1, hs2, hF6, ho1, ho2, hd12⟩
    have hm2 : es'.length / 2 < es'.length := by have := unhide H57; omega
    obtain ⟨sk, hsk⟩ : ∃ s, s = (es'[es'.length / 2]'hm2).1 := ⟨_, rfl⟩
    have hskv : (Lf.es ⟨L.nb, kb', kc', vb', vc', es'⟩)[(Lf.es ⟨L.nb, kb', kc', vb', vc', es'⟩).length / 2].1 = sk := hsk.symm
    rw [hskv]
    have I6 : I.At w6 T.seps (T.ls.map Lf.nb) := (unhide HI5).fr hF6 (unhide HLI)
    have n1 := I6.node.c1; have n2 := I6.node.c2
    have HL1 := hide hL1; have HR := hide hR; have HN1 := hide hn1; have HS1 := hide hs1; have HS2 := hide hs2; have HF6 := hide hF6; have HO1 := hide ho1; have HO2 := hide ho2; have HD := hide hd12; have HSK := hide hsk; have HI6 := hide I6
    clear hL1 hR hn1 hs1 hs2 hF6 ho1 ho2 hd12 hsk hskv I6
    go_wp2_with (go_at_call 107; refine (ownKeys_any I.rb _ n1).mono ?_; rintro e w7 ⟨rfl, hw7⟩; rw [hw7]; clear hw7 w7)
    refine (insert93 I.kb I.kc i T.seps.length (T.seps.map Sl.v) sk w6 (List.length_map ..) (by omega) hile (unhide HI6).keys (one_sv _)).mono ?_
    rintro e w7 ⟨gk, ck, rfl, hr7, hF7, hg7⟩
    have N7 := (unhide HI6).node.fr hF7 (unhide HI6).rk
    have C7 := (unhide HI6).kids.fr hF7 (fun e => (unhide HI6).kc e.symm)
    have z2 := N7.c2; have z4 := N7.c4; have zf := N7.fz 2
    have HR7 := hide hr7; have HF7 := hide hF7; have HG7 := hide hg7; have HN7 := hide N7; have HC7 := hide C7
    clear hr7 hF7 hg7 N7 C7 n1 n2
    have hcl : (T.ls.map Lf.nb).length = T.ls.length := List.length_map ..
    rw [hcl] at z4
    go_wp2_with fail
    rw [show ((i : Int) + 1) = ((i + 1 : Nat) : Int) from by omega]
    obtain ⟨W8, hW8⟩ : ∃ W, W = w7.setCell ⟨I.rb, 2, none⟩ (.slice (some ⟨gk, 0, none⟩) (T.seps.length + 1) ck) := ⟨_, rfl⟩
    rw [← hW8]
    have F8 : Fr (fun k => k = I.rb) w7 W8 := by rw [hW8]; exact (Fr.refl _ w7).setCell ⟨I.rb, 2, none⟩ _ (fun _ => rfl)
    have N8 : NodeAt W8 I.rb (.slice (some ⟨gk, 0, none⟩) (T.seps.length + 1) ck) (.slice none 0 0) (.slice (some ⟨I.cb, 0, none⟩) (T.ls.map Lf.nb).length I.cc) := by rw [hW8]; exact (unhide HN7).set2 _
    have C8 := (unhide HC7).fr F8 (fun e => (unhide HI6).rc e.symm)
    have HF8 := hide F8; have HN8 := hide N8; have HC8 := hide C8
    clear hW8 F8 N8 C8 z2 z4 zf
    refine (insert108 I.cb I.cc (i + 1) T.ls.length ((T.ls.map Lf.nb).map nptr) (some ⟨R.nb, 0, none⟩) W8 (by rw [List.length_map, List.length_map]) (by omega) (by omega) (by have := unhide HC8; rw [hcl] at this; exact this) (one_np _)).mono ?_
    rintro e w9 ⟨gc, cc, rfl, hr9, hF9, hg9⟩
    have N9 := (unhide HN8).fr hF9 (unhide HI6).rc
    have y4 := N9.c4; have yf := N9.fz 4
    have HR9 := hide hr9; have HF9 := hide hF9; have HG9 := hide hg9; have HN9 := hide N9
    clear hr9 hF9 hg9 N9
    go_wp2_with fail
    go_ret2
    refine ⟨⟨_, _, rfl⟩, ?_⟩
    have hLen : (T.ls.take i).length = i := by rw [List.length_take]; omega
    obtain ⟨c1, c2, c3⟩ := (unhide HO).core.repl (L' := ⟨L.nb, kb', kc', vb', vc', es'⟩) (unhide HP) hK (unhide HLA') rfl (unhide HES) (unhide HF) (unhide HOWN)
    have s0 := (unhide HF).size
    have s5 := (unhide HF5).size
    have s6 := (unhide HF6).size
    have s7 := (unhide HF7).size
    have s8 := (unhide HF8).size
    have s9 := (unhide HF9).size
    have hIlt := (unhide HI4).lt
    have hIlt6 := (unhide HI6).lt
    have gk_c := unhide HG7
    have gc_c := unhide HG9
    have gk_lt := (unhide HR7).lt
    have Irk := (unhide HI6).rk; have Irc := (unhide HI6).rc; have Ikc := (unhide HI6).kc
    have l_rb := hIlt6 I.rb (.inl rfl); have l_kb := hIlt6 I.kb (.inr (.inl rfl)); have l_cb := hIlt6 I.cb (.inr (.inr rfl))
    have gk_rb : gk ≠ I.rb := by rcases gk_c with e | e <;> omega
    have gk_cb : gk ≠ I.cb := by rcases gk_c with e | e <;> omega
    have gc_rb : gc ≠ I.rb := by rcases gc_c with e | e <;> omega
    have gk_gc : gk ≠ gc := by rcases gc_c with e | e <;> omega
    obtain ⟨W, hW⟩ : ∃ W, W = w9.setCell ⟨I.rb, 4, none⟩ (.slice (some ⟨gc, 0, none⟩) (T.ls.length + 1) cc) := ⟨_, rfl⟩
    rw [← hW]
    have NW : NodeAt W I.rb (.slice (some ⟨gk, 0, none⟩) (T.seps.length + 1) ck) (.slice none 0 0) (.slice (some ⟨gc, 0, none⟩) (T.ls.length + 1) cc) := by rw [hW]; exact (unhide HN9).set4 _
    have FW9 : Fr (fun k => k = I.rb) w9 W := by rw [hW]; exact (Fr.refl _ w9).setCell ⟨I.rb, 4, none⟩ _ (fun _ => rfl)
    have KW : Row W gk 23 1 (T.seps.length + 1) ck ((T.seps.map Sl.v).take i ++ sk.v :: (T.seps.map Sl.v).drop i) := (((unhide HR7).fr (unhide HF8) gk_rb).fr (unhide HF9) gk_cb).fr FW9 gk_rb
    have CW : Row W gc 78 1 (T.ls.length + 1) cc (((T.ls.map Lf.nb).map nptr).take (i + 1) ++ .pointer (some ⟨R.nb, 0, none⟩) :: ((T.ls.map Lf.nb).map nptr).drop (i + 1)) := (unhide HR9).fr FW9 gc_rb
    -- from w6 on: only the inner node's blocks
    have F6W : Fr I.own w6 W := by
      refine (((unhide HF7).mono (G := I.own) (fun k _ e => .inr (.inl e))).trans (unhide HF8) (fun k _ e => .inl e)).trans (unhide HF9) (fun k _ e => .inr (.inr e)) |>.trans FW9 (fun k _ e => .inl e)
    have F4W : Fr (fun k => (⟨L.nb, kb', kc', vb', vc', es'⟩ : Lf).own k ∨ k = eb ∨ ∃ I0, T.inn = some I0 ∧ I0.own k) w4 W := by
      refine (((unhide HF5).mono (G := fun k => (⟨L.nb, kb', kc', vb', vc', es'⟩ : Lf).own k ∨ k = eb ∨ ∃ I0, T.inn = some I0 ∧ I0.own k) (fun k _ e => .inr (.inl e))).trans (unhide HF6) (fun k _ e => .inl e)).trans F6W (fun k _ e => .inr (.inr ⟨I, hI, e⟩))
    have hL1lt := (unhide HL1).lt
    have hRlt := (unhide HR).lt
    have dI1 : ∀ k, L1.own k → ¬ I.own k := fun k hk hk' => by
      rcases unhide HO1 k hk with e | e
      · exact unhide HLI k hk' e
      · have := hIlt k hk'; omega
    have dI2 : ∀ k, R.own k → ¬ I.own k := fun k hk hk' => by
      have := unhide HO2 k hk; have := hIlt k hk'; omega
    have oI' : ∀ k, Inn.own ⟨I.rb, gk, ck, gc, cc⟩ k → I.own k ∨ w6.heap.size ≤ k := by
      rintro k (rfl | rfl | rfl)
      · exact .inl (.inl rfl)
      · exact gk_c.imp (fun e => .inr (.inl e)) id
      · exact gc_c.imp (fun e => .inr (.inr e)) (fun e => by omega)
    have hsSA : T.seps = T.seps.take i ++ T.seps.drop i := (List.take_append_drop _ _).symm
    have hSAl : (T.seps.take i).length = (T.ls.take i).length := by rw [List.length_take, hLen]; omega
    have hnb1 : L1.nb = L.nb := unhide HN1
    have hIW : Inn.At W ⟨I.rb, gk, ck, gc, cc⟩ (T.seps.take i ++ sk :: T.seps.drop i) ((T.ls.take i ++ L1 :: R :: T.ls.drop (i + 1)).map Lf.nb) := by
      have hsl1 : (T.seps.take i ++ sk :: T.seps.drop i).length = T.seps.length + 1 := by simp; omega
      have hcl1 : ((T.ls.take i ++ L1 :: R :: T.ls.drop (i + 1)).map Lf.nb).length = T.ls.length + 1 := by simp; omega
      refine ⟨?_, ?_, ?_, gk_rb.symm, gc_rb.symm, gk_gc⟩
      · rw [hsl1, hcl1]; exact NW
      · rw [hsl1]
        have : (T.seps.take i ++ sk :: T.seps.drop i).map Sl.v = (T.seps.map Sl.v).take i ++ sk.v :: (T.seps.map Sl.v).drop i := by simp [List.map_take, List.map_drop]
        rw [this]; exact KW
      · rw [hcl1]
        have : ((T.ls.take i ++ L1 :: R :: T.ls.drop (i + 1)).map Lf.nb).map nptr = ((T.ls.map Lf.nb).map nptr).take (i + 1) ++ .pointer (some ⟨R.nb, 0, none⟩) :: ((T.ls.map Lf.nb).map nptr).drop (i + 1) := by
          rw [List.take_succ_eq_append_getElem (by simp; omega)]
          simp only [List.map_append, List.map_cons, List.map_take, List.map_drop, List.append_assoc, List.singleton_append, List.getElem_map]
          rw [hnb1, ← unhide HL]; rfl
        rw [this]; exact CW
    have h57 := unhide H57
    have e128 : es'.length / 2 = 128 := by omega
    obtain ⟨t1, t2, t3⟩ := Core.split (f := f) (K := K) (B := B) (w := w4) (w' := W) (eb := eb) (T := { T with ls := T.ls.take i ++ ⟨L.nb, kb', kc', vb', vc', es'⟩ :: T.ls.drop (i + 1) }) (A := T.ls.take i) (L := ⟨L.nb, kb', kc', vb', vc', es'⟩) (L1 := L1) (R := R) (C := T.ls.drop (i + 1))
      (SA := T.seps.take i) (SC := T.seps.drop i) (I' := ⟨I.rb, gk, ck, gc, cc⟩) (m := es'.length / 2) c1 rfl hsSA hSAl (by omega) (by show es'.length / 2 + 128 ≤ es'.length; omega) ((unhide HL1).fr F6W dI1) ((unhide HR).fr F6W dI2) (unhide HS1) (unhide HS2)
      (by have e := unhide HSK; show Inn.At W _ (T.seps.take i ++ (es'[es'.length / 2]'hm2).1 :: T.seps.drop i) _; rw [← e]; exact hIW) F4W
      (fun k hk => (unhide HO1 k hk).imp id (fun e => by omega)) (fun k hk => by have := unhide HO2 k hk; omega)
      (fun k hk => (oI' k hk).imp (fun e => ⟨I, hI, e⟩) (fun e => by omega))
      (unhide HD)
      (fun k hk hk' => by
        rcases oI' k hk' with e | e
        · exact dI1 k hk e
        · have := hL1lt k hk; omega)
      (fun k hk hk' => by
        rcases oI' k hk' with e | e
        · exact dI2 k hk e
        · have := hRlt k hk; omega)
    have EW : EdAt W eb (some ⟨I.rb, 0, none⟩) none Sl.nil Sl.nil 0 := ((unhide HE5).fr (unhide HF6) (fun e => (unhide HLNE) eb e rfl)).fr F6W hIe
    refine ⟨_, ⟨t1, ?_, none, Sl.nil, Sl.nil, 0, ?_, by omega, .inl rfl⟩, t2.trans c2, ?_, ?_⟩
    · intro M hM
      rcases List.mem_append.1 hM with e | e
      · exact (unhide HO).full M (List.mem_of_mem_take e)
      · rcases List.mem_cons.1 e with rfl | e
        · have := unhide HS1; rw [this]; simp; omega
        · rcases List.mem_cons.1 e with rfl | e
          · have := unhide HS2; rw [this]; simp; omega
          · exact (unhide HO).full M (List.mem_of_mem_drop e)
    · exact EW
    · have hL0m : ∀ k, (⟨L.nb, kb', kc', vb', vc', es'⟩ : Lf).own k → k < w.heap.size → T.own eb k := fun k hk hlt => by
        rcases unhide HOWN k hk with e | e
        · exact .inr (.inl ⟨L, hLm, e⟩)
        · have h2 : w.heap.size ≤ k := e; omega
      refine Fr.trans ((unhide HF).mono (G := T.own eb) (fun k _ hk => ?_)) F4W (fun k hlt hk => ?_)
      · rcases hk with e | e
        · exact .inr (.inl ⟨L, hLm, e⟩)
        · exact .inl e
      · rcases hk with e | e | e
        · exact hL0m k e hlt
        · exact .inl e
        · exact .inr (.inr e)
    · intro k hk
      rcases t3 k hk with e | e
      · exact c3 k e
      · exact .inr (by omega)

end Go.Proofs.Qxb6615626a.BV
