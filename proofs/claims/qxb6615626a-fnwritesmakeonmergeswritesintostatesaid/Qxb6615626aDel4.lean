/-
  refill (V = *Version).
-/
import Derived.Test.Qxb6615626aDel3
import Derived.BigRegion
import Derived.Deep.RegionLaw
namespace Go.Proofs.Qxb6615626a.BV
open Go.RowKit
set_option linter.unusedVariables false

/-- append at a step of a region that draws, its run known -/
theorem step_append_run {P : Program} {w w' : World} {ops : Array Oper} {o : Oper} {a : Act} {K : Act → World → Prop} {Q : Exit → Act → World → Prop} {E : Prop} (hgd : o.guard = none) (s x : Operand) (t ty : TypeId)
    (ho : o.op = .call { callee := .builtin .append, args := #[s, x], argTypes := #[t, t] }) (hty : o.type = ty) (v1 v2 v : Value) (hs : a.eval s = v1) (hx : a.eval x = v2)
    (hr : (Builtin.append_ #[t, t] ty #[v1, v2]).run P w = .ok v w') (h : K (a.put o.dst v) w') :
    if Region.wanted o (yielded ops a.tmps) = true then Oper.wp P o a w K Q else E := by
  have hw : Region.wanted o (yielded ops a.tmps) = true := by simp [Region.wanted, hgd]
  rw [if_pos hw]
  subst hty
  unfold Oper.wp execOp
  simp only [ho, resolve, invoke, builtin, Sem.run_bind, Sem.run_pure, Result.andThen_ok, List.map_toArray, List.map_cons, List.map_nil, hs, hx, hr]
  exact h

/-- what refill leaves: two leaves made one, or shared out anew -/
def RefPost (I : Inn) (seps : List Sl) (nbs : List Nat) (L M : Lf) (j : Nat) (w : World) (e : Ending) (w' : World) : Prop :=
  e = .returned (.tuple #[]) ∧ Fr (fun k => I.own k ∨ L.own k) w w' ∧
  ((∃ L' : Lf, L.es.length + M.es.length ≤ 256 ∧ L'.At w' ∧ L'.nb = L.nb ∧ L'.es = L.es ++ M.es ∧ (∀ k, L'.own k → L.own k ∨ w.heap.size ≤ k) ∧ I.At w' (seps.take j ++ seps.drop (j + 1)) (nbs.take (j + 1) ++ nbs.drop (j + 1 + 1))) ∨
   (∃ L1 R : Lf, 256 < L.es.length + M.es.length ∧ L1.At w' ∧ R.At w' ∧ L1.nb = L.nb ∧ L1.es = (L.es ++ M.es).take ((L.es ++ M.es).length / 2) ∧ R.es = (L.es ++ M.es).drop ((L.es ++ M.es).length / 2) ∧
      (∀ k, L1.own k → L.own k ∨ w.heap.size ≤ k) ∧ (∀ k, R.own k → w.heap.size ≤ k) ∧ (∀ k, L1.own k → R.own k → False) ∧
      ∃ s', (R.es.map fun e => e.1)[0]? = some s' ∧ I.At w' (seps.set j s') (nbs.set (j + 1) R.nb)))

theorem NodeAt.drew {w : World} {nb : Nat} {kv vv cv : Value} (h : NodeAt w nb kv vv cv) : NodeAt w.drew nb kv vv cv := h

/-- the keys have been joined -/
def R8 (L M : Lf) (W1 W : World) : Prop := ∃ g cap, Row W g 23 1 (L.es.length + M.es.length) cap (kvs L.es ++ kvs M.es) ∧ NodeAt W L.nb (.slice (some ⟨g, 0, none⟩) (L.es.length + M.es.length) cap) (.slice (some ⟨L.vb, 0, none⟩) L.es.length L.vc) (.slice none 0 0) ∧
  Fr (fun k => k = L.nb ∨ k = L.kb) W1 W ∧ (g = L.kb ∨ W1.heap.size ≤ g)

/-- keys and values have been joined -/
def R9 (L M : Lf) (W1 W : World) : Prop := ∃ L' : Lf, L'.At W ∧ L'.nb = L.nb ∧ L'.es = L.es ++ M.es ∧ Fr L.own W1 W ∧ ∀ k, L'.own k → L.own k ∨ W1.heap.size ≤ k

theorem kvs_app (a b : List (Sl × Option Addr)) : kvs (a ++ b) = kvs a ++ kvs b := by unfold kvs; rw [List.map_append]
theorem vvs_app (a b : List (Sl × Option Addr)) : vvs (a ++ b) = vvs a ++ vvs b := by unfold vvs; rw [List.map_append]

theorem refill_fin (I : Inn) (seps : List Sl) (nbs : List Nat) (L M L1 R : Lf) (j : Nat) (w w6 : World) (es' : List (Sl × Option Addr)) (sk : Sl) (hI : I.At w6 seps nbs) (hjs : j < seps.length) (hjl : j + 1 < nbs.length)
    (hL1 : L1.At w6) (hR : R.At w6) (hn1 : L1.nb = L.nb) (e1 : L1.es = es'.take (es'.length / 2)) (e2 : R.es = es'.drop (es'.length / 2)) (hes : es' = L.es ++ M.es) (hfr : Fr (fun k => I.own k ∨ L.own k) w w6)
    (ho1 : ∀ k, L1.own k → L.own k ∨ w.heap.size ≤ k) (ho2 : ∀ k, R.own k → w.heap.size ≤ k) (hd : ∀ k, L1.own k → R.own k → False) (d1 : ∀ k, L1.own k → ¬ I.own k) (d2 : ∀ k, R.own k → ¬ I.own k)
    (hbig : 256 < es'.length) (hm2 : es'.length / 2 < es'.length) (hsk : sk = (es'[es'.length / 2]'hm2).1) :
    RefPost I seps nbs L M j w (.returned (.tuple #[])) ((w6.setCell ⟨I.cb, j + 1, none⟩ (.pointer (some ⟨R.nb, 0, none⟩))).setCell ⟨I.kb, j, none⟩ (.slice sk.a sk.n sk.c)) := by
  have F1 : Fr I.own w6 ((w6.setCell ⟨I.cb, j + 1, none⟩ (.pointer (some ⟨R.nb, 0, none⟩))).setCell ⟨I.kb, j, none⟩ (.slice sk.a sk.n sk.c)) :=
    ((Fr.refl _ w6).setCell ⟨I.cb, j + 1, none⟩ _ (fun _ => .inr (.inr rfl))).setCell ⟨I.kb, j, none⟩ _ (fun _ => .inr (.inl rfl))
  refine ⟨rfl, hfr.trans F1 (fun k _ e => .inl e), .inr ⟨L1, R, by rw [← List.length_append, ← hes]; exact hbig, hL1.fr F1 d1, hR.fr F1 d2, hn1, by rw [e1, hes], by rw [e2, hes], ho1, ho2, hd, sk, ?_, ⟨?_, ?_, ?_, hI.rk, hI.rc, hI.kc⟩⟩⟩
  · rw [e2, List.getElem?_map, List.getElem?_drop, Nat.add_zero, List.getElem?_eq_getElem hm2, hsk]; rfl
  · rw [List.length_set, List.length_set]
    exact (hI.node.set_other ⟨I.cb, j + 1, none⟩ _ hI.rc).set_other ⟨I.kb, j, none⟩ _ hI.rk
  · rw [List.length_set]
    have := (hI.keys.setCell_other ⟨I.cb, j + 1, none⟩ (.pointer (some ⟨R.nb, 0, none⟩)) hI.kc).setCell (j := j) (by simpa using hjs) (.slice sk.a sk.n sk.c)
    rw [List.map_set]; exact this
  · rw [List.length_set]
    have := (hI.kids.setCell (j := j + 1) (by simpa using hjl) (.pointer (some ⟨R.nb, 0, none⟩))).setCell_other ⟨I.kb, j, none⟩ (.slice sk.a sk.n sk.c) hI.kc.symm
    rw [List.map_set]; exact this

set_option maxRecDepth 20000 in
set_option maxHeartbeats 4000000 in
theorem refill_any (I : Inn) (seps : List Sl) (nbs : List Nat) (L M : Lf) (eb i j : Nat) (w : World) (hI : I.At w seps nbs) (hL : L.At w) (hM : M.At w) (he : w.cell? ⟨eb, 1, none⟩ = some (.pointer none)) (hsl : seps.length + 1 = nbs.length) (hn : nbs.length ≤ 60)
    (hj : nbs[j]? = some L.nb) (hj1 : nbs[j + 1]? = some M.nb) (hij : (i = j) ∨ (i = j + 1 ∧ i + 1 = nbs.length)) (hLM : ∀ k, L.own k → ¬ M.own k) (hLI : ∀ k, L.own k → ¬ I.own k) (hMI : ∀ k, M.own k → ¬ I.own k) (hLe : ¬ L.own eb)
    (h0 : 128 ≤ L.es.length + M.es.length) (hl1 : L.es.length ≤ 256) (hl2 : M.es.length ≤ 256) (hsum : L.es.length + M.es.length ≤ 400) :
    Calls Try.prog 115 #[.pointer (some ⟨eb, 0, none⟩), .pointer (some ⟨I.rb, 0, none⟩), .int .i64 i] w (RefPost I seps nbs L M j w) := by
  have hjl : j + 1 < nbs.length := (List.getElem?_eq_some_iff.1 hj1).1
  have n4 := hI.node.c4; have n1 := hI.node.c1
  have k0 : w.cell? ⟨I.cb, j, none⟩ = some (.pointer (some ⟨L.nb, 0, none⟩)) := by
    have := hI.kid j (by omega)
    rw [this]; congr 3; rw [List.getElem?_eq_getElem (by omega)] at hj; exact congrArg (fun b => (⟨b, 0, none⟩ : Addr)) (Option.some.inj hj)
  have k1 : w.cell? ⟨I.cb, j + 1, none⟩ = some (.pointer (some ⟨M.nb, 0, none⟩)) := by
    have := hI.kid (j + 1) (by omega)
    rw [this]; congr 3; rw [List.getElem?_eq_getElem (by omega)] at hj1; exact congrArg (fun b => (⟨b, 0, none⟩ : Addr)) (Option.some.inj hj1)
  have kf := hI.kids.frozen j
  have hsame : ∀ m, (w.drewN m).setCell ⟨I.cb, j, none⟩ (.pointer (some ⟨L.nb, 0, none⟩)) = w.drewN m := fun m => setCell_same _ _ _ _ k0
  have l0 := hL.node.c0; have l1 := hL.node.c1; have l4 := hL.node.c4; have l2 := hL.node.c2; have l3 := hL.node.c3
  have HI := hide hI; have HL := hide hL; have HM := hide hM
  have HSL := hide hsl
  have hsa : seps.length + 1 ≤ nbs.length := by omega
  have hsb : nbs.length ≤ seps.length + 1 := by omega
  clear hI hL hM hj hj1 hsl
  have HIJ := hide hij
  clear hij
  go_enter Try.func115, Try.ntmps115
  go_upto_if 15 with fail
  go_cut [2] (fun v wc => v = .int .i64 j ∧ wc = w)
  case first =>
    rcases unhide HIJ with e | ⟨e1, e2⟩
    · subst e
      have hd : ((i : Int) == (nbs.length : Int) - 1) = false := by rw [beq_eq_false_iff_ne]; omega
      go_wp2_with fail
      go_meet
      case rel => exact ⟨rfl, rfl⟩
    · subst e1
      have hd : (((j + 1 : Nat) : Int) == (nbs.length : Int) - 1) = true := by rw [beq_iff_eq]; omega
      go_wp2_with fail
      go_meet
      case rel => exact ⟨by congr 1, rfl⟩
  case rest =>
    obtain ⟨rfl, hwc⟩ := hcut
    have hwc' := hwc.symm
    clear hwc
    subst hwc'
    go_wp2_with (go_at_call 70; refine (own_any eb L.nb _ (by exact l0) (by exact he)).mono ?_; rintro e w2 ⟨rfl, m2, rfl⟩)
    obtain ⟨W1, hW1⟩ : ∃ W, W = w.drewN m2 := ⟨_, rfl⟩
    rw [← hW1]
    have F1 : Fr (fun _ => False) w W1 := by rw [hW1]; exact (Fr.refl _ w).drewN m2
    have I1 := (unhide HI).fr F1 (fun _ _ e => e)
    have L1 := (unhide HL).fr F1 (fun _ _ e => e)
    have M1 := (unhide HM).fr F1 (fun _ _ e => e)
    have HI1 := hide I1; have HL1 := hide L1; have HM1 := hide M1; have HF1 := hide F1
    clear n4 n1 k0 k1 kf hsame l0 l1 l4 l2 l3 hW1 F1 I1 L1 M1
    refine (ownKeys_any I.rb W1 (unhide HI1).node.c1).mono ?_
    rintro e w7 ⟨rfl, hw7⟩; rw [hw7]; clear hw7 w7
    go_wp2_with fail
    refine (ownKeys_any L.nb W1 (unhide HL1).node.c1).mono ?_
    rintro e w7 ⟨rfl, hw7⟩; rw [hw7]; clear hw7 w7
    go_wp2_with fail
    refine (leaf_yes L.nb W1 (unhide HL1).node.c4).mono ?_
    rintro e w7 ⟨rfl, hw7⟩; rw [hw7]; clear hw7 w7
    go_upto_region 8 with fail
    go_cut [] (fun wx => R8 L M W1 wx)
    case first =>
      obtain ⟨i0, hin, hz0, hz1, hz2⟩ := info_parts info23
      have HA := fun ty => run_append_row (P := Try.prog) W1.drew 22 ty 23 i0 (.slice none 0 0) 1 24 Try.underlying22 hin hz0 hz1 hz2 rfl (by decide) L.kb L.es.length L.kc (kvs L.es) (unhide HL1).keys.drew ⟨M.kb, 0, none⟩ M.es.length M.kc (kvs M.es) (by rw [length_kvs, Nat.mul_one])
        (fun k u hu => by rw [addr_add, Nat.zero_add]; exact (unhide HM1).keys.drew.cell? hu) (one_kvs _) (by unfold maxLen; omega) (by omega)
      obtain ⟨g, cap, W2, hr, hrow, hfr, hg⟩ := HA 22
      have l2 := (unhide HL1).node.c2; have m2' := (unhide HM1).node.c2
      have N2 := (unhide HL1).node.drew.fr hfr (unhide HL1).nk
      have q2 := N2.c2; have qf := N2.fz 2
      have HROW := hide hrow; have HFR := hide hfr; have HG := hide hg; have HN2 := hide N2
      clear HA hrow hfr hg N2 hin hz0 hz1 hz2 he
      have HRUN := hide hr
      clear hr
      go_region_law (refine step_append_run rfl (.tmp 52) (.tmp 56) 22 22 rfl rfl _ _ _ (by simp [Act.eval]) (by simp [Act.eval]) (unhide HRUN) ?_)
      all_goals go_wp2_with fail
      all_goals go_meet
      all_goals
        refine ⟨g, cap, (unhide HROW).setCell_other ⟨L.nb, 2, none⟩ _ ?_, (unhide HN2).set2 _, ?_, ?_⟩
        · rcases unhide HG with e | e
          · rw [e]; exact (unhide HL1).nk.symm
          · intro e2
            have := (unhide HL1).node.lt
            have e3 : W1.heap.size ≤ g := e
            simp at e2; omega
        · exact (((Fr.refl _ W1).drew).trans (unhide HFR) (fun k _ e => .inr e)).setCell ⟨L.nb, 2, none⟩ _ (fun _ => .inl rfl)
        · exact unhide HG
    case rest =>
      obtain ⟨g, cap, hrow8, hN8, hF8, hg8⟩ := hcut
      have HI8 := hide ((unhide HI1).fr hF8 (fun k hk e => hLI k (e.elim (fun e => .inl e) (fun e => .inr (.inl e))) hk))
      have HM8 := hide ((unhide HM1).fr hF8 (fun k hk e => hLM k (e.elim (fun e => .inl e) (fun e => .inr (.inl e))) hk))
      have HV8 := hide ((unhide HL1).vals.fr hF8 (fun e => e.elim (fun e => (unhide HL1).nv e.symm) (fun e => (unhide HL1).kv e.symm)))
      have hgnb : g ≠ L.nb := by
        rcases hg8 with e | e
        · rw [e]; exact (unhide HL1).nk.symm
        · have := (unhide HL1).node.lt; omega
      have hgvb : g ≠ L.vb := by
        rcases hg8 with e | e
        · rw [e]; exact (unhide HL1).kv
        · have := (unhide HL1).vals.lt; omega
      have HR8 := hide hrow8; have HN8 := hide hN8; have HF8 := hide hF8; have HG8 := hide hg8
      clear hrow8 hN8 hF8 hg8
      go_upto_region 9 with fail
      go_cut [] (fun wx => R9 L M W1 wx)
      case first =>
        obtain ⟨i0, hin, hz0, hz1, hz2⟩ := info_parts info48
        have HA := run_append_row (P := Try.prog) wc.drew 38 38 48 i0 (.pointer none) 1 8 Try.underlying38 hin hz0 hz1 hz2 rfl (by decide) L.vb L.es.length L.vc (vvs L.es) (unhide HV8).drew ⟨M.vb, 0, none⟩ M.es.length M.vc (vvs M.es) (by rw [length_vvs, Nat.mul_one])
          (fun k u hu => by rw [addr_add, Nat.zero_add]; exact (unhide HM8).vals.drew.cell? hu) (one_vvs _) (by unfold maxLen; omega) (by omega)
        obtain ⟨g2, cap2, W2, hr, hrow, hfr, hg⟩ := HA
        have l3 := (unhide HN8).c3; have m3' := (unhide HM8).node.c3
        have N2 := (unhide HN8).drew.fr hfr (unhide HL1).nv
        have q3 := N2.c3; have qf := N2.fz 3
        have HROW := hide hrow; have HFR := hide hfr; have HG := hide hg; have HN2 := hide N2
        have HRUN := hide hr
        clear hrow hfr hg N2 hin hz0 hz1 hz2 hr
        go_region_law (refine step_append_run rfl (.tmp 64) (.tmp 68) 38 38 rfl rfl _ _ _ (by simp [Act.eval]) (by simp [Act.eval]) (unhide HRUN) ?_)
        all_goals go_wp2_with fail
        all_goals go_meet
        all_goals
          have sz8 := (unhide HF8).size
          have g2nb : g2 ≠ L.nb := by
            rcases unhide HG with e | e
            · rw [e]; exact (unhide HL1).nv.symm
            · have := (unhide HL1).node.lt
              have e3 : wc.heap.size ≤ g2 := e
              omega
          have ggl : g < wc.heap.size := (unhide HR8).lt
          have gg2 : g ≠ g2 := by
            rcases unhide HG with e | e
            · rw [e]; exact hgvb
            · have e3 : wc.heap.size ≤ g2 := e
              omega
          have FX : Fr (fun k => k = L.nb) W2 (W2.setCell ⟨L.nb, 3, none⟩ (.slice (some ⟨g2, 0, none⟩) (L.es.length + M.es.length) cap2)) := (Fr.refl _ W2).setCell ⟨L.nb, 3, none⟩ _ (fun _ => rfl)
          refine ⟨⟨L.nb, g, cap, g2, cap2, L.es ++ M.es⟩, ⟨?_, ?_, ?_, hgnb.symm, g2nb.symm, gg2⟩, rfl, rfl, ?_, ?_⟩
          · show NodeAt _ L.nb (.slice (some ⟨g, 0, none⟩) (L.es ++ M.es).length cap) (.slice (some ⟨g2, 0, none⟩) (L.es ++ M.es).length cap2) (.slice none 0 0)
            rw [List.length_append]; exact (unhide HN2).set3 _
          · show Row _ g 23 1 (L.es ++ M.es).length cap (kvs (L.es ++ M.es))
            rw [List.length_append, kvs_app]
            exact ((unhide HR8).drew.fr (unhide HFR) hgvb).fr FX hgnb
          · show Row _ g2 48 1 (L.es ++ M.es).length cap2 (vvs (L.es ++ M.es))
            rw [List.length_append, vvs_app]
            exact (unhide HROW).fr FX g2nb
          · exact ((((unhide HF8).mono (G := L.own) (fun k _ e => e.elim (fun e => .inl e) (fun e => .inr (.inl e)))).drew).trans (unhide HFR) (fun k _ e => .inr (.inr e))).trans FX (fun k _ e => .inl e)
          · rintro k (e | e | e)
            · exact .inl (.inl e)
            · have e : k = g := e
              rw [e]; exact (unhide HG8).imp (fun e => .inr (.inl e)) id
            · have e : k = g2 := e
              rw [e]
              rcases unhide HG with e | e
              · exact .inl (.inr (.inr e))
              · have e3 : wc.heap.size ≤ g2 := e
                exact .inr (by omega)
      case rest =>
        obtain ⟨⟨nb', kb', kc', vb', vc', es'⟩, hL', hnb0, hes0, hF9, hown⟩ := hcut
        have hnb : nb' = L.nb := hnb0
        subst hnb
        have hes : es' = L.es ++ M.es := hes0
        have hlen : es'.length = L.es.length + M.es.length := by rw [hes, List.length_append]
        have I9 := (unhide HI1).fr hF9 (fun k hk e => hLI k e hk)
        have l2 := hL'.node.c2; have l4 := hL'.node.c4
        have s1 : es'.length ≤ L.es.length + M.es.length := by omega
        have s2 : L.es.length + M.es.length ≤ es'.length := by omega
        have e9 : wc.cell? ⟨eb, 1, none⟩ = some (.pointer none) := by
          have hlt : eb < w.heap.size := by
            by_cases c : eb < w.heap.size
            · exact c
            · have : w.heap[eb]? = none := Array.getElem?_eq_none (by omega)
              simp [World.cell?, this] at he
          have h1 := (unhide HF1).cell (p := ⟨eb, 1, none⟩) hlt (fun e => e)
          have h2 := hF9.cell (p := ⟨eb, 1, none⟩) (by have := (unhide HF1).size; exact Nat.lt_of_lt_of_le hlt this) hLe
          rw [h2, h1]; exact he
        have fr09 : Hid (Fr (fun k => I.own k ∨ L.own k) w wc) := hide (((unhide HF1).mono (fun _ _ e => e.elim)).trans hF9 (fun k _ e => .inr e))
        have z01 := hide (show w.heap.size ≤ W1.heap.size from (unhide HF1).size)
        have n2 := I9.node.c2; have n4 := I9.node.c4
        have HL' := hide hL'; have HES := hide hes; have HF9 := hide hF9; have HOWN := hide hown; have HI9 := hide I9
        clear hL' hes hes0 hnb0 hF9 hown I9 hlen HI8 HM8 HV8 HR8 HN8 HF8 HG8 hgnb hgvb he
        have HSA := hide hsa; have HSB := hide hsb
        by_cases hov : es'.length ≤ 256
        · have hd : decide ((es'.length : Int) ≤ 256) = true := by rw [decide_eq_true_iff]; omega
          have HOV := hide hov; have HS1 := hide s1; have HS2 := hide s2
          clear hov s1 s2
          go_wp2_with (first | (go_at_call 72; refine (size_leaf L.nb _ _ _ _ l2 l4).mono ?_; rintro e w5 ⟨rfl, hw5⟩; rw [hw5]; clear hw5 w5) | (go_at_call 73; refine (most_leaf L.nb _ l4).mono ?_; rintro e w5 ⟨rfl, hw5⟩; rw [hw5]; clear hw5 w5))
          refine (removeAtF113 I.kb I.kc j seps.length (seps.map Sl.v) wc (List.length_map ..) (by omega) (by omega) (unhide HI9).keys (one_sv _)).mono ?_
          rintro e W2 ⟨rfl, hR2, hF2⟩
          have N2 := (unhide HI9).node.fr hF2 (unhide HI9).rk
          have C2 := (unhide HI9).kids.fr hF2 (fun e => (unhide HI9).kc e.symm)
          have q2 := N2.c2; have qf2 := N2.fz 2; have q4 := N2.c4
          have HR2 := hide hR2; have HF2 := hide hF2; have HN2 := hide N2; have HC2 := hide C2
          clear n2 n4 hR2 hF2 N2 C2 l2 l4 e9
          go_wp2_with fail
          rw [show ((j : Int) + 1) = ((j + 1 : Nat) : Int) from by omega]
          obtain ⟨W3, hW3⟩ : ∃ W, W = W2.setCell ⟨I.rb, 2, none⟩ (.slice (some ⟨I.kb, 0, none⟩) (seps.length - 1) I.kc) := ⟨_, rfl⟩
          rw [← hW3]
          have F3 : Fr (fun k => k = I.rb) W2 W3 := by rw [hW3]; exact (Fr.refl _ W2).setCell ⟨I.rb, 2, none⟩ _ (fun _ => rfl)
          have N3 := (unhide HN2).set2 (.slice (some ⟨I.kb, 0, none⟩) (seps.length - 1) I.kc)
          rw [← hW3] at N3
          have C3 := (unhide HC2).fr F3 (fun e => (unhide HI9).rc e.symm)
          have K3 := (unhide HR2).fr F3 (fun e => (unhide HI9).rk e.symm)
          have HF3 := hide F3; have HN3 := hide N3; have HC3 := hide C3; have HK3 := hide K3
          clear hW3 F3 N3 C3 K3 q2 qf2 q4
          refine (removeAtF120 I.cb I.cc (j + 1) nbs.length (nbs.map nptr) W3 (List.length_map ..) (by omega) hjl (unhide HC3) (one_np _)).mono ?_
          rintro e W4 ⟨rfl, hR4, hF4⟩
          have N4 := (unhide HN3).fr hF4 (unhide HI9).rc
          have q3 := N4.c4; have qf3 := N4.fz 4
          have K4 := (unhide HK3).fr hF4 (unhide HI9).kc
          have HR4 := hide hR4; have HF4 := hide hF4; have HN4 := hide N4; have HK4 := hide K4
          clear hR4 hF4 N4 K4
          go_wp2_with fail
          go_end0
          have F5 : Fr (fun k => k = I.rb) W4 (W4.setCell ⟨I.rb, 4, none⟩ (.slice (some ⟨I.cb, 0, none⟩) (nbs.length - 1) I.cc)) := (Fr.refl _ W4).setCell ⟨I.rb, 4, none⟩ _ (fun _ => rfl)
          have FI : Fr I.own wc (W4.setCell ⟨I.rb, 4, none⟩ (.slice (some ⟨I.cb, 0, none⟩) (nbs.length - 1) I.cc)) :=
            ((((unhide HF2).mono (fun k _ e => .inr (.inl e))).trans (unhide HF3) (fun k _ e => .inl e)).trans (unhide HF4) (fun k _ e => .inr (.inr e))).trans F5 (fun k _ e => .inl e)
          have hs1 := unhide HS1; have hov := unhide HOV; have hs2 := unhide HS2
          have hsl1 : (seps.take j ++ seps.drop (j + 1)).length = seps.length - 1 := by simp; omega
          have hcl1 : (nbs.take (j + 1) ++ nbs.drop (j + 1 + 1)).length = nbs.length - 1 := by simp; omega
          refine ⟨rfl, (unhide fr09).trans FI (fun k _ e => .inl e), .inl ⟨⟨L.nb, kb', kc', vb', vc', es'⟩, by omega, (unhide HL').fr FI ?_, rfl, unhide HES, fun k hk => (unhide HOWN k hk).imp id (fun e => by have := unhide z01; omega), ⟨?_, ?_, ?_, (unhide HI9).rk, (unhide HI9).rc, (unhide HI9).kc⟩⟩⟩
          · intro k hk hk'
            rcases unhide HOWN k hk with e | e
            · exact hLI k e hk'
            · have := (unhide HI1).lt k hk'; omega
          · rw [hsl1, hcl1]; exact (unhide HN4).set4 _
          · rw [hsl1]
            have : (seps.take j ++ seps.drop (j + 1)).map Sl.v = (seps.map Sl.v).take j ++ (seps.map Sl.v).drop (j + 1) := by simp [List.map_take, List.map_drop]
            rw [this]; exact (unhide HK4).fr F5 (fun e => (unhide HI9).rk e.symm)
          · rw [hcl1]
            have : (nbs.take (j + 1) ++ nbs.drop (j + 1 + 1)).map nptr = (nbs.map nptr).take (j + 1) ++ (nbs.map nptr).drop (j + 1 + 1) := by simp [List.map_take, List.map_drop]
            rw [this]; exact (unhide HR4).fr F5 (fun e => (unhide HI9).rc e.symm)
        · have hd : decide ((es'.length : Int) ≤ 256) = false := by rw [decide_eq_false_iff_not]; omega
          have HOV := hide hov; have HS1 := hide s1; have HS2 := hide s2
          clear hov s1 s2
          have HSP := hide (split_leaf ⟨L.nb, kb', kc', vb', vc', es'⟩ eb wc.drew ((unhide HL').of_heap rfl) e9 (fun e => hLe (.inl e)) (by have := unhide HS2; show 2 ≤ es'.length; omega) (by have := unhide HS1; show es'.length ≤ 500; omega))
          have hkc : I.cb ≠ I.kb := (unhide HI9).kc.symm
          have hkc2 := (unhide HI9).kc
          have hjs : j < seps.length := by omega
          have hj60 : j ≤ 60 := by omega
          have hwr : IntKind.i64.wrap ((j : Int) + 1) = (j : Int) + 1 := IntWalk.i64_in _ (by omega)
          have hp1 : (0 : Int) ≤ (j : Int) + 1 := by omega
          have hp2 : (j : Int) + 1 < (nbs.length : Int) := by omega
          have hLI' : ∀ k, I.own k → ¬ (⟨L.nb, kb', kc', vb', vc', es'⟩ : Lf).own k := fun k hk hk' => by
            rcases unhide HOWN k hk' with e | e
            · exact hLI k e hk
            · have := (unhide HI1).lt k hk; omega
          have HLI' := hide hLI'
          have hm2 : es'.length / 2 < es'.length := by have := unhide HS2; omega
          obtain ⟨sk, hsk⟩ : ∃ s, s = (es'[es'.length / 2]'hm2).1 := ⟨_, rfl⟩
          have hskv : (Lf.es ⟨L.nb, kb', kc', vb', vc', es'⟩)[(Lf.es ⟨L.nb, kb', kc', vb', vc', es'⟩).length / 2].1 = sk := hsk.symm
          have HSK := hide hsk
          clear hsk hLI'
          go_wp2_with (first | (go_at_call 72; refine (size_leaf L.nb _ _ _ _ l2 l4).mono ?_; rintro e w5 ⟨rfl, hw5⟩; rw [hw5]; clear hw5 w5) | (go_at_call 73; refine (most_leaf L.nb _ l4).mono ?_; rintro e w5 ⟨rfl, hw5⟩; rw [hw5]; clear hw5 w5))
          clear l2 l4 e9 hd
          go_region_with (go_at_call 74; refine (unhide HSP).mono ?_; rintro e w6 ⟨L1, R, rfl, hL1, hR, hn1, hs1, hs2, hF6, ho1, ho2, hd12⟩; rw [hskv]
                          have I6 : I.At w6 seps nbs := ((unhide HI9).fr (w' := wc.drew) ((Fr.refl (fun _ => False) wc).drew) (fun _ _ e => e)).fr hF6 (unhide HLI')
                          have g2 := I6.node.c2; have g4 := I6.node.c4; have gz1 := I6.keys.frozen j; have gz2 := I6.kids.frozen (j + 1)
                          have gk := I6.key j hjs; have gc := I6.kid (j + 1) hjl
                          have HL1 := hide hL1; have HR := hide hR; have HN1 := hide hn1; have HE1 := hide hs1; have HE2 := hide hs2; have HF6 := hide hF6; have HO1 := hide ho1; have HO2 := hide ho2; have HD := hide hd12; have HI6 := hide I6
                          clear hL1 hR hn1 hs1 hs2 hF6 ho1 ho2 hd12 I6)
          all_goals go_wp2_with fail
          all_goals go_end0
          all_goals
            have z9 := (unhide HF9).size
            have z0 := unhide z01
            have F96 := unhide HF6
            have hI1lt := (unhide HI1).lt
            refine refill_fin I seps nbs L M L1 R j w w6 es' sk (unhide HI6) hjs hjl (unhide HL1) (unhide HR) (unhide HN1) (unhide HE1) (unhide HE2) (unhide HES) ?_ ?_ ?_ (unhide HD) ?_ ?_ (by have := unhide HOV; omega) hm2 (unhide HSK)
            · refine ((unhide fr09).drew).trans F96 (fun k hlt hk => ?_)
              rcases unhide HOWN k hk with e | e
              · exact .inr e
              · omega
            · intro k hk
              rcases unhide HO1 k hk with e | e
              · rcases unhide HOWN k e with e | e
                · exact .inl e
                · exact .inr (by omega)
              · have e : wc.heap.size ≤ k := e
                exact .inr (by omega)
            · intro k hk
              have e : wc.heap.size ≤ k := unhide HO2 k hk
              omega
            · intro k hk hk'
              rcases unhide HO1 k hk with e | e
              · exact unhide HLI' k hk' e
              · have e : wc.heap.size ≤ k := e
                have := hI1lt k hk'; omega
            · intro k hk hk'
              have e : wc.heap.size ≤ k := unhide HO2 k hk
              have := hI1lt k hk'; omega
end Go.Proofs.Qxb6615626a.BV
