/-
  Cursors: settle past a leaf's end (V by the namespace).
-/
import Derived.Test.Qxb6615626aCurB
namespace Go.Proofs.Qxb6615626a.BV
open Go.RowKit
set_option linter.unusedVariables false

set_option maxHeartbeats 2000000 in
/-- settle where the one leaf is at its end -/
theorem settle_end1 (cb g cap i : Nat) (L : Lf) (w : World) (h : Top w cb g cap 1 0 L.nb i) (hL : L.At w) (hi : L.es.length ≤ i) (hgc : g ≠ cb) (hcap : 1 ≤ cap) (hcm : cap ≤ maxLen) :
    Calls Try.prog 78 #[.pointer (some ⟨cb, 0, none⟩)] w fun e w' => e = .returned (.tuple #[]) ∧ Fr (fun k => k = cb) w w' ∧ ∃ a c, CurB w' cb (.slice a 0 c) := by
  unfold maxLen at hcm
  have c0 := h.cur.c0
  have hcl := h.cur.lt
  have hgl := h.glt
  have h0 := h.h0; have h1 := h.h1
  have hd : decide ((i : Int) < (L.es.length : Int)) = false := by rw [decide_eq_false_iff_not]; omega
  have HLA := hide hL; have HS := hide h
  clear hL h
  go_enter Try.func78, Try.ntmps78
  go_wp2_with fail
  refine wp_loop_rounds 2 ?_
  rw [rounds_succ]
  go_wp2_with fail
  go_region
  go_wp2_with fail
  obtain ⟨W1, hW1⟩ : ∃ W, W = (w.alloc (.cells #[.pointer (some ⟨L.nb, 0, none⟩), .int .i64 i] 131)).drew := ⟨_, rfl⟩
  rw [← hW1]
  obtain ⟨t0, t1, F1, sz⟩ := top_facts w _ _ W1 hW1
  have S1 := (unhide HS).fr F1 (fun e => e) (fun e => e)
  have L1 := (unhide HLA).fr F1 (fun _ _ e => e)
  clear c0 hcl hgl h0 h1 hW1
  generalize w.heap.size = tb at *
  have d2 := L1.node.c2; have d4 := L1.node.c4; have c0 := S1.cur.c0
  have HF1 := hide F1; have HL1 := hide L1; have HS1 := hide S1
  clear F1 L1 S1 sz
  go_quiet ((go_at_call 72; exact Calls.quiet_of_same (size_leaf L.nb _ _ _ _ (by exact d2) (by exact d4))))
  go_wp2_with fail
  obtain ⟨W2, hW2⟩ : ∃ W, W = W1.drewN nq := ⟨_, rfl⟩
  rw [← hW2]
  have F2 : Fr (fun _ => False) W1 W2 := by rw [hW2]; exact (Fr.refl _ W1).drewN nq
  have S2 := (unhide HS1).fr F2 (fun e => e) (fun e => e)
  clear c0 hW2 t0 t1 d2 d4
  have c0 := S2.cur.c0; have cf := S2.cur.fz 0
  have HF2 := hide F2; have HS2 := hide S2
  clear F2 S2
  go_region
  go_wp2_with fail
  rw [rounds_succ]
  go_wp2_with fail
  refine bodyPost_ret (v := .tuple #[]) (by simp [results, Try.results78, go_sem]) rfl ?_
  refine ⟨rfl, ?_, _, _, (unhide HS2).cur.set0 _⟩
  exact ((((unhide HF1).mono (G := fun k => k = cb) (fun _ _ e => e.elim)).trans (unhide HF2) (fun _ _ e => e.elim)).setCell ⟨cb, 0, none⟩ _ (fun _ => rfl)).drew

/-- a path of two steps: the root at child j, the leaf nb at place i -/
structure Two (w : World) (cb g cap rb j nb i : Nat) : Prop where
  cur : CurB w cb (.slice (some ⟨g, 0, none⟩) 2 cap)
  row : Row w g 131 2 2 cap [.pointer (some ⟨rb, 0, none⟩), .int .i64 j, .pointer (some ⟨nb, 0, none⟩), .int .i64 i]
  gc : g ≠ cb

theorem Two.fr {F : Nat → Prop} {w w' : World} {cb g cap rb j nb i : Nat} (h : Two w cb g cap rb j nb i) (hf : Fr F w w') (hc : ¬ F cb) (hg : ¬ F g) : Two w' cb g cap rb j nb i :=
  ⟨h.cur.fr hf hc, h.row.fr hf hg, h.gc⟩
theorem Two.top {w : World} {cb g cap rb j nb i : Nat} (h : Two w cb g cap rb j nb i) : Top w cb g cap 2 2 nb i :=
  ⟨h.cur, h.row.cell? rfl, h.row.cell? rfl⟩

/-- a path of one step: the root at child j -/
structure Onep (w : World) (cb g cap rb j : Nat) : Prop where
  cur : CurB w cb (.slice (some ⟨g, 0, none⟩) 1 cap)
  row : Row w g 131 2 1 cap [.pointer (some ⟨rb, 0, none⟩), .int .i64 j]
  gc : g ≠ cb
theorem Onep.fr {F : Nat → Prop} {w w' : World} {cb g cap rb j : Nat} (h : Onep w cb g cap rb j) (hf : Fr F w w') (hc : ¬ F cb) (hg : ¬ F g) : Onep w' cb g cap rb j :=
  ⟨h.cur.fr hf hc, h.row.fr hf hg, h.gc⟩
theorem Onep.top {w : World} {cb g cap rb j : Nat} (h : Onep w cb g cap rb j) : Top w cb g cap 1 0 rb j :=
  ⟨h.cur, h.row.cell? rfl, h.row.cell? rfl⟩

set_option maxHeartbeats 2000000 in
/-- settle where the last leaf is at its end -/
theorem settle_end2 (cb g cap i j : Nat) (L : Lf) (I : Inn) (ss : List Sl) (cs : List Nat) (w : World) (h : Two w cb g cap I.rb j L.nb i) (hL : L.At w) (hI : I.At w ss cs) (hi : L.es.length ≤ i) (hj : cs.length ≤ j + 1) (hj2 : j ≤ 1000) (hLc : ∀ k, L.own k → k ≠ cb ∧ k ≠ g) (hIc : ∀ k, I.own k → k ≠ cb ∧ k ≠ g) :
    Calls Try.prog 78 #[.pointer (some ⟨cb, 0, none⟩)] w fun e w' => e = .returned (.tuple #[]) ∧ Fr (fun k => k = cb ∨ k = g) w w' ∧ ∃ a c, CurB w' cb (.slice a 0 c) := by
  have hcm : cap ≤ 9223372036854775807 := by obtain ⟨_, _, _, _, hh, _⟩ := h.row; unfold maxLen at hh; exact hh
  have hcap : 2 ≤ cap := by obtain ⟨_, _, _, hh, _⟩ := h.row; exact hh
  have c0 := h.cur.c0
  have hcl := h.cur.lt
  have hgl := h.row.lt
  have h0 := h.top.h0; have h1 := h.top.h1
  have hgc := h.gc
  have hd : decide ((i : Int) < (L.es.length : Int)) = false := by rw [decide_eq_false_iff_not]; omega
  have hd2 : decide ((j : Int) + 1 < (cs.length : Int)) = false := by rw [decide_eq_false_iff_not]; omega
  have HLA := hide hL; have HS := hide h; have HIA := hide hI; have HLC := hide hLc; have HIC := hide hIc
  clear hL h hI hLc hIc
  go_enter Try.func78, Try.ntmps78
  go_wp2_with fail
  refine wp_loop_rounds 3 ?_
  rw [rounds_succ]
  go_wp2_with fail
  go_region
  go_wp2_with fail
  obtain ⟨W1, hW1⟩ : ∃ W, W = (w.alloc (.cells #[.pointer (some ⟨L.nb, 0, none⟩), .int .i64 i] 131)).drew := ⟨_, rfl⟩
  rw [← hW1]
  obtain ⟨t0, t1, F1, sz⟩ := top_facts w _ _ W1 hW1
  have S1 := (unhide HS).fr F1 (fun e => e) (fun e => e)
  have L1 := (unhide HLA).fr F1 (fun _ _ e => e)
  have I1 := (unhide HIA).fr F1 (fun _ _ e => e)
  clear c0 hcl hgl h0 h1 hW1
  generalize w.heap.size = tb at *
  have d2 := L1.node.c2; have d4 := L1.node.c4; have c0 := S1.cur.c0
  have HF1 := hide F1; have HS1 := hide S1; have HI1 := hide I1
  clear F1 L1 S1 I1 sz
  go_quiet ((go_at_call 72; exact Calls.quiet_of_same (size_leaf L.nb _ _ _ _ (by exact d2) (by exact d4))))
  go_wp2_with fail
  obtain ⟨W2, hW2⟩ : ∃ W, W = W1.drewN nq := ⟨_, rfl⟩
  rw [← hW2]
  have F2 : Fr (fun _ => False) W1 W2 := by rw [hW2]; exact (Fr.refl _ W1).drewN nq
  have S2 := (unhide HS1).fr F2 (fun e => e) (fun e => e)
  have I2 := (unhide HI1).fr F2 (fun _ _ e => e)
  clear c0 hW2 t0 t1 d2 d4
  have c0 := S2.cur.c0; have cf := S2.cur.fz 0
  have HF2 := hide F2; have HS2 := hide S2; have HI2 := hide I2
  clear F2 S2 I2
  go_region
  go_wp2_with fail
  obtain ⟨W3, hW3⟩ : ∃ W, W = (W2.setCell ⟨cb, 0, none⟩ (.slice (some ⟨g, 0, none⟩) 1 cap)).drew := ⟨_, rfl⟩
  rw [← hW3]
  have F3 : Fr (fun k => k = cb) W2 W3 := by rw [hW3]; exact ((Fr.refl (fun k => k = cb) W2).setCell ⟨cb, 0, none⟩ _ (fun _ => rfl)).drew
  have C3 : CurB W3 cb (.slice (some ⟨g, 0, none⟩) 1 cap) := by rw [hW3]; exact (unhide HS2).cur.set0 _
  have R3 := (unhide HS2).row.fr F3 hgc
  have I3 := (unhide HI2).fr F3 (fun k hk e => ((unhide HIC) k hk).1 e)
  clear c0 cf hW3
  have c0 := C3.c0; have x1 : W3.cell? ⟨g, 1, none⟩ = some (.int .i64 j) := R3.cell? rfl
  have xf := R3.frozen 1
  have HF3 := hide F3; have HC3 := hide C3; have HR3 := hide R3; have HI3 := hide I3
  clear F3 C3 R3 I3
  go_region
  go_wp2_with fail
  obtain ⟨W4, hW4⟩ : ∃ W, W = (W3.setCell ⟨g, 1, none⟩ (.int .i64 ((j : Int) + 1))).drew := ⟨_, rfl⟩
  rw [← hW4]
  have F4 : Fr (fun k => k = g) W3 W4 := by rw [hW4]; exact ((Fr.refl (fun k => k = g) W3).setCell ⟨g, 1, none⟩ _ (fun _ => rfl)).drew
  have C4 := (unhide HC3).fr F4 (fun e => hgc e.symm)
  have R4 : Row W4 g 131 2 1 cap [.pointer (some ⟨I.rb, 0, none⟩), .int .i64 ((j : Int) + 1)] := by rw [hW4]; exact ((unhide HR3).setCell (j := 1) (by simp) _).short 1 (by omega)
  have I4 := (unhide HI3).fr F4 (fun k hk e => ((unhide HIC) k hk).2 e)
  clear c0 x1 xf hW4
  have c0 := C4.c0; have hcl := C4.lt; have hgl := R4.lt
  have h0 : W4.cell? ⟨g, 0, none⟩ = some (.pointer (some ⟨I.rb, 0, none⟩)) := R4.cell? rfl
  have h1 : W4.cell? ⟨g, 1, none⟩ = some (.int .i64 ((j : Int) + 1)) := R4.cell? rfl
  have HF4 := hide F4; have HC4 := hide C4; have HI4 := hide I4
  clear F4 C4 R4 I4
  rw [rounds_succ]
  go_wp2_with fail
  go_region
  go_wp2_with fail
  obtain ⟨W5, hW5⟩ : ∃ W, W = (W4.alloc (.cells #[.pointer (some ⟨I.rb, 0, none⟩), .int .i64 ((j : Int) + 1)] 131)).drew := ⟨_, rfl⟩
  rw [← hW5]
  obtain ⟨t0, t1, F5, sz⟩ := top_facts W4 _ _ W5 hW5
  have C5 := (unhide HC4).fr F5 (fun e => e)
  have I5 := (unhide HI4).fr F5 (fun _ _ e => e)
  clear c0 hcl hgl h0 h1 hW5
  generalize W4.heap.size = tb5 at *
  have d4 := I5.node.c4; have c0 := C5.c0
  have HF5 := hide F5; have HC5 := hide C5
  clear F5 C5 I5 sz
  go_quiet ((go_at_call 72; exact Calls.quiet_of_same (size_inner I.rb _ _ _ _ (by exact d4))))
  go_wp2_with fail
  obtain ⟨W6, hW6⟩ : ∃ W, W = W5.drewN nq := ⟨_, rfl⟩
  rw [← hW6]
  have F6 : Fr (fun _ => False) W5 W6 := by rw [hW6]; exact (Fr.refl _ W5).drewN nq
  have C6 := (unhide HC5).fr F6 (fun e => e)
  clear c0 hW6 t0 t1 d4
  have c0 := C6.c0; have cf := C6.fz 0
  have HF6 := hide F6; have HC6 := hide C6
  clear F6 C6
  go_region
  go_wp2_with fail
  rw [rounds_succ]
  go_wp2_with fail
  refine bodyPost_ret (v := .tuple #[]) (by simp [results, Try.results78, go_sem]) rfl ?_
  refine ⟨rfl, ?_, _, _, (unhide HC6).set0 _⟩
  have A : Fr (fun k => k = cb ∨ k = g) w W6 := (((((((unhide HF1).mono (G := fun k => k = cb ∨ k = g) (fun _ _ e => e.elim)).trans (unhide HF2) (fun _ _ e => e.elim)).trans (unhide HF3) (fun _ _ e => .inl e)).trans (unhide HF4) (fun _ _ e => .inr e)).trans (unhide HF5) (fun _ _ e => e.elim)).trans (unhide HF6) (fun _ _ e => e.elim))
  exact (A.setCell ⟨cb, 0, none⟩ _ (fun _ => .inl rfl)).drew
end Go.Proofs.Qxb6615626a.BV
