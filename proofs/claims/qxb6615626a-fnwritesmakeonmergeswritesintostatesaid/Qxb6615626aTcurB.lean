/-
  Tree.Cursor, Editor.Cursor (V by the namespace), from the first key on.
-/
import Derived.Test.Qxb6615626aStepB
import Derived.Test.Qxb6615626aZz2
namespace Go.Proofs.Qxb6615626a.BV
open Go.RowKit
set_option linter.unusedVariables false

theorem two_new (w : World) (a b : Value) (t : TypeId) : ∀ j u, [a, b][j]? = some u → (w.alloc (.cells #[a, b] t)).cell? ((⟨w.heap.size, 0, none⟩ : Addr).add j) = some u := by
  intro j u h
  rw [addr_add]
  have hj : j = 0 ∨ j = 1 := by have := (List.getElem?_eq_some_iff.1 h).1; simp at this; omega
  rcases hj with rfl | rfl
  · simp at h; subst h; simp
  · simp at h; subst h; simp

theorem find_nil (L : Lf) (f : Sl → List UInt8) (w : World) (hL : L.At w) (hlen : L.es.length ≤ 256) (hf : ∀ e ∈ L.es, Byt w e.1 (f e.1)) (ha : AscE f L.es) (h0 : f Sl.nil = []) :
    Calls Try.prog 104 #[.pointer (some ⟨L.nb, 0, none⟩), .slice none 0 0] w fun e w' => ∃ b, e = .returned (.tuple #[.int .i64 0, .bool b]) ∧ ∃ n, w' = w.drewN n := by
  refine (find_any L.nb L.kb L.kc (kss L.es) f Sl.nil w (by rw [length_kss]; omega) (by rw [length_kss]; exact hL.node.c2) hL.key (fun s hs => by obtain ⟨e, he, rfl⟩ := List.mem_map.1 hs; exact hf e he) (by rw [h0]; exact Byt.nil w) ha.keys).mono ?_
  rintro e w' ⟨i, rfl, hi, hw⟩
  have : i = 0 := by
    by_cases h : 0 < i
    · have hl0 : 0 < (kss L.es).length := by have := hi.le; omega
      have hh := hi.below 0 hl0 h
      exact absurd hh (by rw [h0]; exact Pl.not_lt_nil _)
    · omega
  subst this
  exact ⟨_, rfl, hw⟩

theorem route_nil (I : Inn) (f : Sl → List UInt8) (ss : List Sl) (cs : List Nat) (w : World) (hI : I.At w ss cs) (hlen : ss.length ≤ 1000) (hf : ∀ s ∈ ss, Byt w s (f s)) (hne : ∀ s ∈ ss, f s ≠ []) (ha : Asc f ss) (h0 : f Sl.nil = []) :
    Calls Try.prog 105 #[.pointer (some ⟨I.rb, 0, none⟩), .slice none 0 0] w fun e w' => e = .returned (.int .i64 0) ∧ ∃ n, w' = w.drewN n := by
  refine (route_any I.rb I.kb I.kc ss f Sl.nil w (by omega) hI.node.c2 hI.key hf (by rw [h0]; exact Byt.nil w) ha).mono ?_
  rintro e w' ⟨i, rfl, hi, hw⟩
  have : i = 0 := by
    by_cases h : 0 < i
    · have h1 : 0 < ss.length := by have := hi.le; omega
      have hh := hi.below 0 h1 h
      exact absurd (show Pl.lt (f Sl.nil) _ from by rw [h0]; exact Pl.nil_lt (hne _ (List.getElem_mem h1))) hh
    · omega
  subst this
  exact ⟨rfl, hw⟩

set_option maxHeartbeats 2000000 in
theorem tcursor_nil (w : World) :
    Calls Try.prog 75 #[.agg #[.pointer none], .slice none 0 0, .slice none 0 0] w fun e w' => e = .returned (.pointer (some ⟨w.heap.size + 1, 0, none⟩)) ∧ CurB w' (w.heap.size + 1) (.slice none 0 0) ∧ Fr (fun _ => False) w w' := by
  go_enter Try.func75, Try.ntmps75
  go_wp2_with fail
  go_ret
  refine ⟨rfl, ?_, ((Fr.refl _ w).alloc _).alloc _⟩
  unfold CurB
  have h := heap_alloc_new (w.alloc (.cells #[.pointer none] 101)) (.cells #[.slice none 0 0, .slice none 0 0] 129)
  have e : (w.alloc (.cells #[.pointer none] 101)).heap.size = w.heap.size + 1 := by simp
  rw [e] at h
  exact h

/-- the world behind the making of a cursor -/
theorem made_facts (w : World) (r : Option Addr) (W : World) (h : W = (w.alloc (.cells #[.pointer r] 101)).alloc (.cells #[.slice none 0 0, .slice none 0 0] 129)) :
    CurB W (w.heap.size + 1) (.slice none 0 0) ∧ Fr (fun _ => False) w W ∧ W.heap.size = w.heap.size + 2 := by
  subst h
  refine ⟨?_, ((Fr.refl _ w).alloc _).alloc _, by simp⟩
  unfold CurB
  have h := heap_alloc_new (w.alloc (.cells #[.pointer r] 101)) (.cells #[.slice none 0 0, .slice none 0 0] 129)
  have e : (w.alloc (.cells #[.pointer r] 101)).heap.size = w.heap.size + 1 := by simp
  rw [e] at h
  exact h

def TcPost (L : Lf) (w : World) (cb : Nat) (e : Ending) (w' : World) : Prop :=
  e = .returned (.pointer (some ⟨cb, 0, none⟩)) ∧ ∃ g, w.heap.size ≤ g ∧ Fr (fun _ => False) w w' ∧
      ((L.es.length = 0 ∧ ∃ a c, CurB w' cb (.slice a 0 c)) ∨ (0 < L.es.length ∧ ∃ cap, Onep w' cb g cap L.nb 0))

set_option maxRecDepth 20000 in
set_option maxHeartbeats 2000000 in
theorem tcursor_leaf (L : Lf) (f : Sl → List UInt8) (w : World) (hL : L.At w) (hlen : L.es.length ≤ 256) (hf : ∀ e ∈ L.es, Byt w e.1 (f e.1)) (ha : AscE f L.es) (h0 : f Sl.nil = []) :
    Calls Try.prog 75 #[.agg #[.pointer (some ⟨L.nb, 0, none⟩)], .slice none 0 0, .slice none 0 0] w (TcPost L w (w.heap.size + 1)) := by
  obtain ⟨i0, hin, hz0, hz1, hz2⟩ := info_parts info131
  have HL := hide hL; have HF := hide hf; have HA := hide ha; have H0 := hide h0
  clear hL hf ha h0
  go_enter Try.func75, Try.ntmps75
  go_wp2_with fail
  obtain ⟨W1, hW1⟩ : ∃ W, W = (w.alloc (.cells #[.pointer (some ⟨L.nb, 0, none⟩)] 101)).alloc (.cells #[.slice none 0 0, .slice none 0 0] 129) := ⟨_, rfl⟩
  rw [← hW1]
  obtain ⟨C1, F1, sz1⟩ := made_facts w _ W1 hW1
  have L1 := (unhide HL).fr F1 (fun _ _ e => e)
  have d4 := L1.node.c4
  have HFN := hide (find_nil L f W1 L1 hlen (fun e he => (unhide HF e he).fr F1 (fun _ e => e)) (unhide HA) (unhide H0))
  obtain ⟨cb, hcb⟩ : ∃ cb, cb = w.heap.size + 1 := ⟨_, rfl⟩
  rw [← hcb] at C1 ⊢
  have hcb1 : cb < W1.heap.size := C1.lt
  have HC1 := hide C1; have HF1 := hide F1; have HL1 := hide L1; have HCB := hide hcb; have HSZ := hide sz1
  clear hW1 C1 F1 L1 hcb sz1
  refine wp_loop_rounds 1 ?_
  rw [rounds_succ]
  go_wp2_with (go_at_call 81; refine (leaf_yes L.nb _ d4).mono ?_; rintro e w9 ⟨rfl, hw9⟩; rw [hw9]; clear hw9 w9)
  refine (unhide HFN).mono ?_
  rintro e W2 ⟨bf, rfl, m2, hW2⟩
  have F2 : Fr (fun _ => False) W1 W2 := by rw [hW2]; exact (Fr.refl _ W1).drewN m2
  have C2 := (unhide HC1).fr F2 (fun e => e)
  have c0 := C2.c0
  have hsz2 : W2.heap.size = W1.heap.size := by rw [hW2]; rfl
  have HC2 := hide C2; have HF2 := hide F2; have HSZ2 := hide hsz2
  clear C2 F2 hW2 d4 hsz2
  go_wp2_with (at_builtin; refine wpList_append_fresh rfl _ _ 127 rfl 131 i0 (.agg #[.pointer none, .int .i64 0]) 2 16 Try.underlying127 hin hz0 hz1 hz2 rfl (by decide) rfl _ 1 1 [.pointer (some ⟨L.nb, 0, none⟩), .int .i64 0] rfl rfl (two_new _ _ _ _) (by decide) (by unfold maxLen; omega) (by omega) ?_; intro g' cap' W3 hrow3 hfr3 hg3; have C3 := ((unhide HC2).alloc _).fr hfr3 (fun e => e); have c3 := C3.c0; have f3 := C3.fz 0; have HC3 := hide C3; have HR3 := hide hrow3; have HF3 := hide hfr3; have HG3 := hide hg3; clear C3 hrow3 hfr3 hg3)
  obtain ⟨W4, hW4⟩ : ∃ W, W = W3.setCell ⟨cb, 0, none⟩ (.slice (some ⟨g', 0, none⟩) 1 cap') := ⟨_, rfl⟩
  rw [← hW4]
  have hsA : (W2.alloc (.cells #[.pointer (some ⟨L.nb, 0, none⟩), .int .i64 0] 131)).heap.size = W2.heap.size + 1 := by simp
  have hgc : g' ≠ cb := by have := unhide HG3; rw [hsA] at this; have := unhide HSZ2; omega
  have FA : Fr (fun _ => False) w W3 := ((unhide HF1).trans (unhide HF2) (fun _ _ e => e)).trans (((Fr.refl (fun _ => False) W2).alloc _).trans (unhide HF3) (fun _ _ e => e)) (fun _ _ e => e)
  have F4 : Fr (fun _ => False) w W4 := by rw [hW4]; exact FA.setCell ⟨cb, 0, none⟩ _ (fun h => by have := unhide HCB; simp at h; omega)
  have O4 : Onep W4 cb g' cap' L.nb 0 := by rw [hW4]; exact ⟨(unhide HC3).set0 _, (unhide HR3).setCell_other ⟨cb, 0, none⟩ _ hgc, hgc⟩
  have L4 := (unhide HL).fr F4 (fun _ _ e => e)
  have hg4 : w.heap.size ≤ g' := by have := unhide HG3; rw [hsA] at this; have := unhide HSZ2; have := unhide HSZ; omega
  have HF4 := hide F4; have HO4 := hide O4; have HL4 := hide L4; have HG4 := hide hg4
  clear hW4 FA F4 O4 L4 hg4 c3 f3 c0 HFN hcb1
  by_cases hpos : 0 < L.es.length
  · refine (settle_stay cb g' cap' 1 0 0 L W4 (.inl ⟨rfl, rfl⟩) (unhide HO4).top (unhide HL4) hpos).mono ?_
    rintro e W5 ⟨rfl, hF5⟩
    have HF5 := hide hF5
    clear hF5
    go_wp2_with fail
    go_ret
    exact ⟨by rw [← unhide HCB]; rfl, g', unhide HG4, (unhide HF4).trans (unhide HF5) (fun _ _ e => e), .inr ⟨hpos, cap', by rw [← unhide HCB]; exact (unhide HO4).fr (unhide HF5) (fun e => e) (fun e => e)⟩⟩
  · have hcap : 1 ≤ cap' ∧ cap' ≤ maxLen := by obtain ⟨_, _, _, h1, h2, _⟩ := (unhide HO4).row; exact ⟨h1, h2⟩
    refine (settle_end1 cb g' cap' 0 L W4 (unhide HO4).top (unhide HL4) (by omega) hgc hcap.1 hcap.2).mono ?_
    rintro e W5 ⟨rfl, hF5, a5, c5, hC5⟩
    have HF5 := hide hF5; have HC5 := hide hC5
    clear hF5 hC5 hcap
    go_wp2_with fail
    go_ret
    exact ⟨by rw [← unhide HCB]; rfl, g', unhide HG4, (unhide HF4).trans (unhide HF5) (fun k hk e => by have := unhide HCB; omega), .inl ⟨by omega, a5, c5, by rw [← unhide HCB]; exact unhide HC5⟩⟩

def TcPost2 (L : Lf) (I : Inn) (w : World) (cb : Nat) (e : Ending) (w' : World) : Prop :=
  e = .returned (.pointer (some ⟨cb, 0, none⟩)) ∧ ∃ g cap, w.heap.size ≤ g ∧ Fr (fun _ => False) w w' ∧ Two w' cb g cap I.rb 0 L.nb 0

set_option maxRecDepth 20000 in
set_option maxHeartbeats 4000000 in
theorem tcursor_inn (L : Lf) (I : Inn) (ss : List Sl) (cs : List Nat) (f : Sl → List UInt8) (w : World) (hL : L.At w) (hI : I.At w ss cs) (hc0 : ∃ h : 0 < cs.length, cs[0] = L.nb) (hlen : L.es.length ≤ 256) (hpos : 0 < L.es.length) (hss : ss.length ≤ 1000)
    (hf : ∀ e ∈ L.es, Byt w e.1 (f e.1)) (ha : AscE f L.es) (hfs : ∀ s ∈ ss, Byt w s (f s)) (hne : ∀ s ∈ ss, f s ≠ []) (has : Asc f ss) (h0 : f Sl.nil = []) :
    Calls Try.prog 75 #[.agg #[.pointer (some ⟨I.rb, 0, none⟩)], .slice none 0 0, .slice none 0 0] w (TcPost2 L I w (w.heap.size + 1)) := by
  obtain ⟨i0, hin, hz0, hz1, hz2⟩ := info_parts info131
  have HL := hide hL; have HF := hide hf; have HA := hide ha; have H0 := hide h0; have HI := hide hI; have HC0 := hide hc0; have HFS := hide hfs; have HNE := hide hne; have HAS := hide has
  clear hL hf ha h0 hI hc0 hfs hne has
  go_enter Try.func75, Try.ntmps75
  go_wp2_with fail
  obtain ⟨W1, hW1⟩ : ∃ W, W = (w.alloc (.cells #[.pointer (some ⟨I.rb, 0, none⟩)] 101)).alloc (.cells #[.slice none 0 0, .slice none 0 0] 129) := ⟨_, rfl⟩
  rw [← hW1]
  obtain ⟨C1, F1, sz1⟩ := made_facts w _ W1 hW1
  have I1 := (unhide HI).fr F1 (fun _ _ e => e)
  have d4 := I1.node.c4
  have HRN := hide (route_nil I f ss cs W1 I1 hss (fun e he => (unhide HFS e he).fr F1 (fun _ e => e)) (unhide HNE) (unhide HAS) (unhide H0))
  obtain ⟨cb, hcb⟩ : ∃ cb, cb = w.heap.size + 1 := ⟨_, rfl⟩
  rw [← hcb] at C1 ⊢
  have HC1 := hide C1; have HF1 := hide F1; have HCB := hide hcb; have HSZ := hide sz1
  clear hW1 C1 F1 I1 hcb sz1
  refine wp_loop_rounds 2 ?_
  rw [rounds_succ]
  go_wp2_with (go_at_call 81; refine (leaf_no I.rb _ _ _ _ d4).mono ?_; rintro e w9 ⟨rfl, hw9⟩; rw [hw9]; clear hw9 w9)
  refine (unhide HRN).mono ?_
  rintro e W2 ⟨rfl, m2, hW2⟩
  have F2 : Fr (fun _ => False) W1 W2 := by rw [hW2]; exact (Fr.refl _ W1).drewN m2
  have C2 := (unhide HC1).fr F2 (fun e => e)
  have c0 := C2.c0
  have hsz2 : W2.heap.size = W1.heap.size := by rw [hW2]; rfl
  have HC2 := hide C2; have HF2 := hide (show Fr (fun _ => False) w W2 from (unhide HF1).trans F2 (fun _ _ e => e)); have HSZ2 := hide hsz2
  clear C2 F2 hW2 d4 hsz2 HRN HF1 HC1
  go_wp2_with (at_builtin; refine wpList_append_fresh rfl _ _ 127 rfl 131 i0 (.agg #[.pointer none, .int .i64 0]) 2 16 Try.underlying127 hin hz0 hz1 hz2 rfl (by decide) rfl _ 1 1 [.pointer (some ⟨I.rb, 0, none⟩), .int .i64 0] rfl rfl (two_new _ _ _ _) (by decide) (by unfold maxLen; omega) (by omega) ?_; intro g' cap' W3 hrow3 hfr3 hg3; have C3 := ((unhide HC2).alloc _).fr hfr3 (fun e => e); have c3 := C3.c0; have f3 := C3.fz 0; have HC3 := hide C3; have HR3 := hide hrow3; have HF3 := hide (show Fr (fun _ => False) w W3 from ((unhide HF2).alloc _).trans hfr3 (fun _ _ e => e)); have HG3 := hide hg3; have I3 := (unhide HI).fr (unhide HF3) (fun _ _ e => e); have hrc : I.rb ≠ cb := (fun e => by have h1 := (unhide HI).lt I.rb (.inl rfl); have := unhide HCB; omega); have hcc : I.cb ≠ cb := (fun e => by have h1 := (unhide HI).lt I.cb (.inr (.inr rfl)); have := unhide HCB; omega); have hkd : W3.cell? ⟨I.cb, 0, none⟩ = some (.pointer (some ⟨L.nb, 0, none⟩)) := (by obtain ⟨h1, h2⟩ := unhide HC0; have := I3.kid 0 h1; rw [h2] at this; exact this); have hcsl : (0 : Int) < (cs.length : Int) := (by obtain ⟨h1, h2⟩ := unhide HC0; omega); have hd4 := I3.node.c4; clear C3 hrow3 hfr3 hg3 I3)
  obtain ⟨W4, hW4⟩ : ∃ W, W = W3.setCell ⟨cb, 0, none⟩ (.slice (some ⟨g', 0, none⟩) 1 cap') := ⟨_, rfl⟩
  rw [← hW4]
  have hsA : (W2.alloc (.cells #[.pointer (some ⟨I.rb, 0, none⟩), .int .i64 0] 131)).heap.size = W2.heap.size + 1 := by simp
  have hgc : g' ≠ cb := by have := unhide HG3; rw [hsA] at this; have := unhide HSZ2; have := unhide HSZ; have := unhide HCB; omega
  have F4 : Fr (fun _ => False) w W4 := by rw [hW4]; exact (unhide HF3).setCell ⟨cb, 0, none⟩ _ (fun h => by have := unhide HCB; simp at h; omega)
  have O4 : Onep W4 cb g' cap' I.rb 0 := by rw [hW4]; exact ⟨(unhide HC3).set0 _, (unhide HR3).setCell_other ⟨cb, 0, none⟩ _ hgc, hgc⟩
  have L4 := (unhide HL).fr F4 (fun _ _ e => e)
  have hg4 : w.heap.size ≤ g' := by have := unhide HG3; rw [hsA] at this; have := unhide HSZ2; have := unhide HSZ; omega
  have d4 := L4.node.c4
  have HFN := hide (find_nil L f W4 L4 hlen (fun e he => (unhide HF e he).fr F4 (fun _ e => e)) (unhide HA) (unhide H0))
  have HF4 := hide F4; have HO4 := hide O4; have HL4 := hide L4; have HG4 := hide hg4
  clear hW4 F4 O4 L4 hg4 c3 f3 c0 hkd hcsl hd4 hrc hcc HG3
  rw [rounds_succ]
  go_wp2_with (go_at_call 81; refine (leaf_yes L.nb _ d4).mono ?_; rintro e w9 ⟨rfl, hw9⟩; rw [hw9]; clear hw9 w9)
  refine (unhide HFN).mono ?_
  rintro e W5 ⟨bf, rfl, m5, hW5⟩
  have F5 : Fr (fun _ => False) W4 W5 := by rw [hW5]; exact (Fr.refl _ W4).drewN m5
  have O5 := (unhide HO4).fr F5 (fun e => e) (fun e => e)
  have c0 := O5.cur.c0
  have HO5 := hide O5; have HF5 := hide (show Fr (fun _ => False) w W5 from (unhide HF4).trans F5 (fun _ _ e => e))
  clear O5 F5 hW5 d4 HFN HF4 HO4 hsA
  go_wp2_with (at_builtin; refine wpList_append_row rfl _ _ 127 rfl 131 i0 (.agg #[.pointer none, .int .i64 0]) 2 16 Try.underlying127 hin hz0 hz1 hz2 rfl (by decide) g' 1 cap' [.pointer (some ⟨I.rb, 0, none⟩), .int .i64 0] rfl ((unhide HO5).row.alloc _) _ 1 1 [.pointer (some ⟨L.nb, 0, none⟩), .int .i64 0] rfl rfl (two_new _ _ _ _) (fun x hx => by simp at hx; rcases hx with rfl | rfl <;> rfl) (by unfold maxLen; omega) (by omega) ?_; intro g2 cap2 W6 hrow6 hfr6 hg6; have C6 := ((unhide HO5).cur.alloc _).fr hfr6 (fun e => hgc e.symm); have c6 := C6.c0; have f6 := C6.fz 0; have HC6 := hide C6; have HR6 := hide hrow6; have HF6 := hide (show Fr (fun _ => False) w W6 from ((unhide HF5).alloc _).trans hfr6 (fun k hk e => by have := unhide HG4; omega)); have HG6 := hide hg6; clear C6 hrow6 hfr6 hg6)
  obtain ⟨W7, hW7⟩ : ∃ W, W = W6.setCell ⟨cb, 0, none⟩ (.slice (some ⟨g2, 0, none⟩) 2 cap2) := ⟨_, rfl⟩
  rw [← hW7]
  have hgc2 : g2 ≠ cb := by
    rcases unhide HG6 with e | e
    · rw [e]; exact hgc
    · have h1 := (unhide HO5).cur.lt
      have h2 : W5.heap.size ≤ (W5.alloc (.cells #[.pointer (some ⟨L.nb, 0, none⟩), .int .i64 0] 131)).heap.size := by simp
      omega
  have hg7 : w.heap.size ≤ g2 := by
    rcases unhide HG6 with e | e
    · rw [e]; exact unhide HG4
    · have h1 := (unhide HF5).size
      have h2 : W5.heap.size ≤ (W5.alloc (.cells #[.pointer (some ⟨L.nb, 0, none⟩), .int .i64 0] 131)).heap.size := by simp
      omega
  have F7 : Fr (fun _ => False) w W7 := by rw [hW7]; exact (unhide HF6).setCell ⟨cb, 0, none⟩ _ (fun h => by have := unhide HCB; simp at h; omega)
  have O7 : Two W7 cb g2 cap2 I.rb 0 L.nb 0 := by rw [hW7]; exact ⟨(unhide HC6).set0 _, (unhide HR6).setCell_other ⟨cb, 0, none⟩ _ hgc2, hgc2⟩
  have L7 := (unhide HL).fr F7 (fun _ _ e => e)
  have HF7 := hide F7; have HO7 := hide O7; have HL7 := hide L7; have HG7 := hide hg7
  clear hW7 F7 O7 L7 hg7 c6 f6 c0
  refine (settle_stay cb g2 cap2 2 2 0 L W7 (.inr ⟨rfl, rfl⟩) (unhide HO7).top (unhide HL7) hpos).mono ?_
  rintro e W8 ⟨rfl, hF8⟩
  have HF8 := hide hF8
  clear hF8
  go_wp2_with fail
  go_ret
  exact ⟨by rw [← unhide HCB]; rfl, g2, cap2, unhide HG7, (unhide HF7).trans (unhide HF8) (fun _ _ e => e), by rw [← unhide HCB]; exact (unhide HO7).fr (unhide HF8) (fun e => e) (fun e => e)⟩

/-- a cursor from the first entry on -/
def CurNew (w : World) (T : Tr) (e : Ending) (w' : World) : Prop :=
  ∃ cb g, e = .returned (.pointer (some ⟨cb, 0, none⟩)) ∧ w.heap.size ≤ cb ∧ w.heap.size ≤ g ∧ Fr (fun _ => False) w w' ∧ CurAt w' cb g T 0

theorem tcursor_any (f : Sl → List UInt8) (K : Sl → Prop) (B : Nat) (eb : Nat) (T : Tr) (w : World) (h : Ok f K B w eb T) (hk : KOK f K B w) (hn : T.es.length ≤ 7000) (h0 : f Sl.nil = []) :
    Calls Try.prog 75 #[.agg #[.pointer T.root], .slice none 0 0, .slice none 0 0] w (CurNew w T) := by
  have hbyt : ∀ L ∈ T.ls, ∀ e ∈ L.es, Byt w e.1 (f e.1) := fun L hL e he => (hk e.1 (h.core.kk L hL e he)).1
  rcases h.core.sh with ⟨g1, g2, g3⟩ | ⟨I, g1, g2, g3, g4, g5, g6⟩
  · cases hl : T.ls with
    | nil =>
      have hr : T.root = none := by unfold Tr.root; rw [g1, hl]
      rw [hr]
      refine (tcursor_nil w).mono ?_
      rintro e w' ⟨rfl, h1, h2⟩
      exact ⟨w.heap.size + 1, w.heap.size + 1, rfl, by omega, by omega, h2, .done none 0 h1 (by unfold Tr.es; rw [hl]; rfl)⟩
    | cons L ls =>
      have hls : ls = [] := by rw [hl] at g2; simp at g2; exact g2
      subst hls
      have hLm : L ∈ T.ls := by rw [hl]; simp
      have hr : T.root = some ⟨L.nb, 0, none⟩ := by unfold Tr.root; rw [g1, hl]
      have hes : T.es = L.es := by unfold Tr.es; rw [hl]; simp
      rw [hr]
      refine (tcursor_leaf L f w (h.core.lf L hLm) (h.full L hLm) (hbyt L hLm) (by rw [← hes]; exact h.core.asc) h0).mono ?_
      rintro e w' ⟨rfl, g, hg, hF, hc⟩
      refine ⟨w.heap.size + 1, g, rfl, by omega, hg, hF, ?_⟩
      rcases hc with ⟨hz, a, c, hc⟩ | ⟨hp, cap, ho⟩
      · exact .done a c hc (by rw [hes, hz])
      · exact .one cap L g1 hl hp ho
  · cases hl : T.ls with
    | nil => rw [hl] at g3; simp at g3
    | cons L ls =>
      have hLm : L ∈ T.ls := by rw [hl]; simp
      have hr : T.root = some ⟨I.rb, 0, none⟩ := by unfold Tr.root; rw [g1]
      have hasc : AscE f L.es := by
        have := h.core.asc
        unfold Tr.es at this
        rw [hl, List.flatMap_cons] at this
        exact (List.pairwise_append.1 this).1
      have hpos : 0 < L.es.length := by have := g5 L hLm; omega
      have hlen : T.ls.length ≤ 60 := by have := leaves_le T.ls g5; unfold Tr.es at hn; omega
      rw [hr]
      refine (tcursor_inn L I T.seps (T.ls.map Lf.nb) f w (h.core.lf L hLm) g2 ⟨by rw [hl]; simp, by simp [hl]⟩ (h.full L hLm) hpos (by omega) (hbyt L hLm) hasc (fun s hs => (hk s (h.core.sk s hs).1).1) (fun s hs => (h.core.sk s hs).2) h.core.sa h0).mono ?_
      rintro e w' ⟨rfl, g, cap, hg, hF, hc⟩
      exact ⟨w.heap.size + 1, g, rfl, by omega, hg, hF, .two cap I [] L ls 0 g1 hl (by simp) hpos hc⟩

set_option maxHeartbeats 1000000 in
theorem ecursor_any (f : Sl → List UInt8) (K : Sl → Prop) (B : Nat) (eb : Nat) (T : Tr) (w : World) (h : Ok f K B w eb T) (hk : KOK f K B w) (hn : T.es.length ≤ 7000) (h0 : f Sl.nil = []) :
    Calls Try.prog 76 #[.pointer (some ⟨eb, 0, none⟩), .slice none 0 0, .slice none 0 0] w (CurNew w T) := by
  have HT := hide (tcursor_any f K B eb T w h hk hn h0)
  obtain ⟨nl, lo, hi, p, hE, _⟩ := h.ed
  have c0 := hE.c0
  clear h hk hE
  go_enter Try.func76, Try.ntmps76
  go_wp2_with fail
  refine (unhide HT).mono ?_
  rintro e w' ⟨cb, g, rfl, hr⟩
  have HR := hide hr
  clear hr
  go_wp2_with fail
  go_ret
  exact ⟨cb, g, rfl, unhide HR⟩
end Go.Proofs.Qxb6615626a.BV
