/-
  Cursors: settle on to the next leaf (V by the namespace).
-/
import Derived.Test.Qxb6615626aCur2B
import Derived.Test.Qxb6615626aCur3rB
namespace Go.Proofs.Qxb6615626a.BV
open Go.RowKit
set_option linter.unusedVariables false

/-- what settle works on: the cursor, a row of two steps, the inner root, the next leaf -/
structure Scene (w0 w : World) (cb g cap n rb j nb i : Nat) (I : Inn) (ss : List Sl) (cs : List Nat) (M : Lf) : Prop where
  cur : CurB w cb (.slice (some ⟨g, 0, none⟩) n cap)
  row : Row w g 131 2 2 cap [.pointer (some ⟨rb, 0, none⟩), .int .i64 j, .pointer (some ⟨nb, 0, none⟩), .int .i64 i]
  inn : I.At w ss cs
  nxt : M.At w
  fra : Fr (fun k => k = cb ∨ k = g) w0 w
  gc : g ≠ cb
  ic : ∀ k, I.own k → k ≠ cb ∧ k ≠ g
  mc : ∀ k, M.own k → k ≠ cb ∧ k ≠ g

theorem Scene.keep {w0 w w' : World} {cb g cap n rb j nb i : Nat} {I : Inn} {ss : List Sl} {cs : List Nat} {M : Lf} (h : Scene w0 w cb g cap n rb j nb i I ss cs M) (hf : Fr (fun _ => False) w w') : Scene w0 w' cb g cap n rb j nb i I ss cs M :=
  ⟨h.cur.fr hf (fun e => e), h.row.fr hf (fun e => e), h.inn.fr hf (fun _ _ e => e), h.nxt.fr hf (fun _ _ e => e), h.fra.trans hf (fun _ _ e => e.elim), h.gc, h.ic, h.mc⟩

theorem Scene.pop {w0 w : World} {cb g cap n rb j nb i m : Nat} {I : Inn} {ss : List Sl} {cs : List Nat} {M : Lf} (h : Scene w0 w cb g cap n rb j nb i I ss cs M) :
    Scene w0 (w.setCell ⟨cb, 0, none⟩ (.slice (some ⟨g, 0, none⟩) m cap)).drew cb g cap m rb j nb i I ss cs M := by
  have F : Fr (fun k => k = cb) w (w.setCell ⟨cb, 0, none⟩ (.slice (some ⟨g, 0, none⟩) m cap)).drew := ((Fr.refl (fun k => k = cb) w).setCell ⟨cb, 0, none⟩ _ (fun _ => rfl)).drew
  exact ⟨h.cur.set0 _, h.row.fr F h.gc, h.inn.fr F (fun k hk e => (h.ic k hk).1 e), h.nxt.fr F (fun k hk e => (h.mc k hk).1 e), h.fra.trans F (fun _ _ e => .inl e), h.gc, h.ic, h.mc⟩

theorem Scene.step {w0 w : World} {cb g cap n rb j nb i : Nat} {I : Inn} {ss : List Sl} {cs : List Nat} {M : Lf} (h : Scene w0 w cb g cap n rb j nb i I ss cs M) :
    Scene w0 (w.setCell ⟨g, 1, none⟩ (.int .i64 ((j : Int) + 1))).drew cb g cap n rb (j + 1) nb i I ss cs M := by
  have F : Fr (fun k => k = g) w (w.setCell ⟨g, 1, none⟩ (.int .i64 ((j : Int) + 1))).drew := ((Fr.refl (fun k => k = g) w).setCell ⟨g, 1, none⟩ _ (fun _ => rfl)).drew
  exact ⟨h.cur.fr F (fun e => h.gc e.symm), h.row.setCell (j := 1) (by simp) _, h.inn.fr F (fun k hk e => (h.ic k hk).2 e), h.nxt.fr F (fun k hk e => (h.mc k hk).2 e), h.fra.trans F (fun _ _ e => .inr e), h.gc, h.ic, h.mc⟩

theorem Scene.push {w0 w : World} {cb g cap n rb j nb i : Nat} {I : Inn} {ss : List Sl} {cs : List Nat} {M : Lf} (h : Scene w0 w cb g cap n rb j nb i I ss cs M) (W8 : World)
    (e : W8 = ((((w.setCell ⟨g, 2, none⟩ (.pointer (some ⟨M.nb, 0, none⟩))).setCell ⟨g, 3, none⟩ (.int .i64 0)).setCell ⟨cb, 0, none⟩ (.slice (some ⟨g, 0, none⟩) 2 cap)).alloc (.cells #[.pointer (some ⟨M.nb, 0, none⟩), .int .i64 0] 131)).drew) :
    Scene w0 W8 cb g cap 2 rb j M.nb 0 I ss cs M ∧ Fr (fun k => k = cb ∨ k = g) w W8 := by
  subst e
  have F1 : Fr (fun k => k = g) w ((w.setCell ⟨g, 2, none⟩ (.pointer (some ⟨M.nb, 0, none⟩))).setCell ⟨g, 3, none⟩ (.int .i64 0)) := ((Fr.refl (fun k => k = g) w).setCell ⟨g, 2, none⟩ _ (fun _ => rfl)).setCell ⟨g, 3, none⟩ _ (fun _ => rfl)
  have R1 := (h.row.setCell (j := 2) (by simp) (.pointer (some ⟨M.nb, 0, none⟩))).setCell (j := 3) (by simp) (.int .i64 0)
  have C1 := h.cur.fr F1 (fun e => h.gc e.symm)
  generalize (w.setCell ⟨g, 2, none⟩ (.pointer (some ⟨M.nb, 0, none⟩))).setCell ⟨g, 3, none⟩ (.int .i64 0) = W1 at *
  have F2 : Fr (fun k => k = cb) W1 (W1.setCell ⟨cb, 0, none⟩ (.slice (some ⟨g, 0, none⟩) 2 cap)) := (Fr.refl (fun k => k = cb) W1).setCell ⟨cb, 0, none⟩ _ (fun _ => rfl)
  have R2 := R1.fr F2 h.gc
  have C2 := C1.set0 (.slice (some ⟨g, 0, none⟩) 2 cap)
  generalize W1.setCell ⟨cb, 0, none⟩ (.slice (some ⟨g, 0, none⟩) 2 cap) = W2 at *
  have F3 : Fr (fun _ => False) W2 (W2.alloc (.cells #[.pointer (some ⟨M.nb, 0, none⟩), .int .i64 0] 131)).drew := ((Fr.refl _ W2).alloc _).drew
  have F : Fr (fun k => k = cb ∨ k = g) w (W2.alloc (.cells #[.pointer (some ⟨M.nb, 0, none⟩), .int .i64 0] 131)).drew :=
    ((F1.mono (fun _ _ e => Or.inr e)).trans F2 (fun _ _ e => Or.inl e)).trans F3 (fun _ _ e => e.elim)
  exact ⟨⟨C2.fr F3 (fun e => e), R2.fr F3 (fun e => e), h.inn.fr F (fun k hk e => e.elim (h.ic k hk).1 (h.ic k hk).2), h.nxt.fr F (fun k hk e => e.elim (h.mc k hk).1 (h.mc k hk).2), h.fra.trans F (fun _ _ e => e), h.gc, h.ic, h.mc⟩, F⟩

/-- a new variable is made and then written -/
theorem Scene.fresh {w0 w : World} {cb g cap n rb j nb i : Nat} {I : Inn} {ss : List Sl} {cs : List Nat} {M : Lf} (h : Scene w0 w cb g cap n rb j nb i I ss cs M) (o : Obj) (x y : Value) :
    Scene w0 (((w.alloc o).setCell ⟨w.heap.size, 0, none⟩ x).setCell ⟨w.heap.size, 1, none⟩ y).drew cb g cap n rb j nb i I ss cs M := by
  refine h.keep ?_
  have F1 : Fr (fun k => k = w.heap.size) w (((w.alloc o).setCell ⟨w.heap.size, 0, none⟩ x).setCell ⟨w.heap.size, 1, none⟩ y).drew :=
    ((((Fr.refl (fun k => k = w.heap.size) w).alloc o).setCell ⟨w.heap.size, 0, none⟩ x (fun _ => rfl)).setCell ⟨w.heap.size, 1, none⟩ y (fun _ => rfl)).drew
  exact F1.mono (fun k hk e => by subst e; exact absurd hk (Nat.lt_irrefl _))

set_option maxHeartbeats 4000000 in
/-- settle where a leaf is at its end and another follows -/
theorem settle_next (cb g cap i j : Nat) (L : Lf) (I : Inn) (ss : List Sl) (cs : List Nat) (w : World) (h : Two w cb g cap I.rb j L.nb i) (hL : L.At w) (hI : I.At w ss cs) (hi : L.es.length ≤ i) (M : Lf) (hM : M.At w) (hj : j + 1 < cs.length) (hjM : cs[j + 1] = M.nb) (hMc : ∀ k, M.own k → k ≠ cb ∧ k ≠ g) (hj2 : j ≤ 1000) (hIc : ∀ k, I.own k → k ≠ cb ∧ k ≠ g) :
    Calls Try.prog 78 #[.pointer (some ⟨cb, 0, none⟩)] w fun e w' => e = .returned (.tuple #[]) ∧ Fr (fun k => k = cb ∨ k = g) w w' ∧ Two w' cb g cap I.rb (j + 1) M.nb 0 := by
  have hcm : cap ≤ 9223372036854775807 := by obtain ⟨_, _, _, _, hh, _⟩ := h.row; unfold maxLen at hh; exact hh
  have hcap : 2 ≤ cap := by obtain ⟨_, _, _, hh, _⟩ := h.row; exact hh
  have c0 := h.cur.c0
  have hcl := h.cur.lt
  have hgl := h.row.lt
  have h0 := h.top.h0; have h1 := h.top.h1
  have hgc := h.gc
  have hd : decide ((i : Int) < (L.es.length : Int)) = false := by rw [decide_eq_false_iff_not]; omega
  have hd2 : decide ((j : Int) + 1 < (cs.length : Int)) = true := by rw [decide_eq_true_iff]; omega
  have S : Scene w w cb g cap 2 I.rb j L.nb i I ss cs M := ⟨h.cur, h.row, hI, hM, Fr.refl _ w, h.gc, hIc, hMc⟩
  have HS := hide S; have HLA := hide hL; have HJM := hide hjM
  clear hL h hI hIc hM hMc hjM S
  go_enter Try.func78, Try.ntmps78
  go_wp2_with fail
  refine wp_loop_rounds 3 ?_
  rw [rounds_succ]
  go_wp2_with fail
  go_region
  go_wp2_with fail
  obtain ⟨W1, hW1⟩ : ∃ W, W = (w.alloc (.cells #[.pointer (some ⟨L.nb, 0, none⟩), .int .i64 i] 131)).drew := ⟨_, rfl⟩
  rw [← hW1]
  obtain ⟨t0, t1, F1, sz⟩ := top_facts w _ _ W1 hW1
  have S1 := (unhide HS).keep F1
  have L1 := (unhide HLA).fr F1 (fun _ _ e => e)
  clear c0 hcl hgl h0 h1 hW1 HS HLA
  generalize w.heap.size = tb at *
  have d2 := L1.node.c2; have d4 := L1.node.c4; have c0 := S1.cur.c0
  have HS := hide S1
  clear F1 L1 S1 sz
  go_quiet ((go_at_call 72; exact Calls.quiet_of_same (size_leaf L.nb _ _ _ _ (by exact d2) (by exact d4))))
  go_wp2_with fail
  obtain ⟨W2, hW2⟩ : ∃ W, W = W1.drewN nq := ⟨_, rfl⟩
  rw [← hW2]
  have S2 := (unhide HS).keep (w' := W2) (by rw [hW2]; exact (Fr.refl _ W1).drewN nq)
  clear c0 hW2 t0 t1 d2 d4 HS
  have c0 := S2.cur.c0; have cf := S2.cur.fz 0
  have HS := hide S2
  clear S2
  go_region
  go_wp2_with fail
  obtain ⟨W3, hW3⟩ : ∃ W, W = (W2.setCell ⟨cb, 0, none⟩ (.slice (some ⟨g, 0, none⟩) 1 cap)).drew := ⟨_, rfl⟩
  rw [← hW3]
  have S3 : Scene w W3 cb g cap 1 I.rb j L.nb i I ss cs M := by rw [hW3]; exact (unhide HS).pop
  clear c0 cf hW3 HS
  have c0 := S3.cur.c0; have x1 : W3.cell? ⟨g, 1, none⟩ = some (.int .i64 j) := S3.row.cell? rfl
  have xf := S3.row.frozen 1
  have HS := hide S3
  clear S3
  go_region
  go_wp2_with fail
  obtain ⟨W4, hW4⟩ : ∃ W, W = (W3.setCell ⟨g, 1, none⟩ (.int .i64 ((j : Int) + 1))).drew := ⟨_, rfl⟩
  rw [← hW4]
  have S4 : Scene w W4 cb g cap 1 I.rb (j + 1) L.nb i I ss cs M := by rw [hW4]; exact (unhide HS).step
  clear c0 x1 xf hW4 HS
  have c0 := S4.cur.c0; have hcl := S4.cur.lt; have hgl := S4.row.lt
  have h0 : W4.cell? ⟨g, 0, none⟩ = some (.pointer (some ⟨I.rb, 0, none⟩)) := S4.row.cell? rfl
  have h1 : W4.cell? ⟨g, 1, none⟩ = some (.int .i64 ((j : Int) + 1)) := S4.row.cell? rfl
  have HS := hide S4
  clear S4
  rw [rounds_succ]
  go_wp2_with fail
  go_region
  go_wp2_with fail
  obtain ⟨W5, hW5⟩ : ∃ W, W = (W4.alloc (.cells #[.pointer (some ⟨I.rb, 0, none⟩), .int .i64 ((j : Int) + 1)] 131)).drew := ⟨_, rfl⟩
  rw [← hW5]
  obtain ⟨t0, t1, F5, sz⟩ := top_facts W4 _ _ W5 hW5
  have S5 := (unhide HS).keep F5
  clear c0 hcl hgl h0 h1 hW5 HS
  generalize W4.heap.size = tb5 at *
  have d4 := S5.inn.node.c4; have c0 := S5.cur.c0
  have HS := hide S5
  clear F5 S5 sz
  go_quiet ((go_at_call 72; exact Calls.quiet_of_same (size_inner I.rb _ _ _ _ (by exact d4))))
  go_wp2_with fail
  obtain ⟨W6, hW6⟩ : ∃ W, W = W5.drewN nq := ⟨_, rfl⟩
  rw [← hW6]
  have S6 := (unhide HS).keep (w' := W6) (by rw [hW6]; exact (Fr.refl _ W5).drewN nq)
  clear c0 hW6 t0 t1 d4 HS
  have c0 := S6.cur.c0; have hcl := S6.cur.lt; have hgl := S6.row.lt
  have h0 : W6.cell? ⟨g, 0, none⟩ = some (.pointer (some ⟨I.rb, 0, none⟩)) := S6.row.cell? rfl
  have h1 : W6.cell? ⟨g, 1, none⟩ = some (.int .i64 ((j : Int) + 1)) := S6.row.cell? rfl
  have HS := hide S6
  clear S6
  go_region
  go_wp2_with fail
  obtain ⟨W7, hW7⟩ : ∃ W, W = (W6.alloc (.cells #[.pointer (some ⟨I.rb, 0, none⟩), .int .i64 ((j : Int) + 1)] 131)).drew := ⟨_, rfl⟩
  rw [← hW7]
  obtain ⟨t0, t1, F7, sz7⟩ := top_facts W6 _ _ W7 hW7
  have S7 := (unhide HS).keep F7
  clear h0 h1 hW7 c0 HS
  obtain ⟨t7, ht7⟩ : ∃ t, t = W6.heap.size := ⟨_, rfl⟩
  rw [← ht7] at t0 t1 sz7 hgl hcl ⊢
  have d4 := S7.inn.node.c4; have c0 := S7.cur.c0
  have kd : W7.cell? ⟨I.cb, j + 1, none⟩ = some (.pointer (some ⟨M.nb, 0, none⟩)) := by have := S7.inn.kid (j + 1) hj; rw [unhide HJM] at this; exact this
  have HS := hide S7
  clear F7 S7 ht7
  refine wp_loop_rounds 2 ?_
  rw [rounds_succ]
  go_wp2_with (go_at_call 81; refine (leaf_no I.rb _ _ _ _ d4).mono ?_; rintro e w9 ⟨rfl, hw9⟩; rw [hw9]; clear hw9 w9)
  have x2 : W7.cell? ⟨g, 2, none⟩ = some (.pointer (some ⟨L.nb, 0, none⟩)) := (unhide HS).row.cell? rfl
  have x3 : W7.cell? ⟨g, 3, none⟩ = some (.int .i64 i) := (unhide HS).row.cell? rfl
  have z2 := (unhide HS).row.frozen 2; have z3 := (unhide HS).row.frozen 3
  have cf := (unhide HS).cur.fz 0
  have h7c : t7 ≠ cb := fun e => by omega
  have h7g : t7 ≠ g := fun e => by omega
  clear hgl hcl
  have hgl : g < W7.heap.size := (unhide HS).row.lt
  have hcl : cb < W7.heap.size := (unhide HS).cur.lt
  have hIlt : I.rb < W7.heap.size := (unhide HS).inn.lt I.rb (.inl rfl)
  have hIclt : I.cb < W7.heap.size := (unhide HS).inn.lt I.cb (.inr (.inr rfl))
  have hjj : (0 : Int) ≤ (j : Int) + 1 := by omega
  have hjc : (j : Int) + 1 < (cs.length : Int) := by omega
  clear hd hd2 hcm
  have h7l : t7 < W7.heap.size := by omega
  have hgr : g ≠ I.rb := fun e => ((unhide HS).ic I.rb (.inl rfl)).2 e.symm
  have hgi : g ≠ I.cb := fun e => ((unhide HS).ic I.cb (.inr (.inr rfl))).2 e.symm
  refine settle_region10 W7 _ cb g cap t7 j L.nb i I.rb I.cb cs.length I.cc M.nb _ _ _ _ _ _ _ _ _ _ _ _ _ _ _ _ _ _ _ _ _ _ _ _ _ _ _ _ _ _ _ _ _ _ _ _ _ _ _ _ _ _ _ _ _ _ _ _ _ _ _ _ _ _ _ _ _ _ _ _ _ _ _ _ _ _ _ _ _ _ _ _ _ _ _ _ _ _ _ _ _ _ _ _ _ _ _ _ _ _ _ _ _ _ _ _ _ _ _ _ _ _ _ _ _ _ _ _ _ _ _ _ _ _ _ _ c0 t0 t1 d4 kd x2 x3 z2 z3 cf hcap hgc h7c h7g hgl hcl hIlt hIclt h7l hjj hjc hgr hgi ?_
  intro p98 p99 p100 p101 p102 p103 p104 p105 p106 p107 p108 p109 p110 p111 p112 p113 p114 p115 p116
  obtain ⟨W8, hW8⟩ : ∃ W, W = ((((W7.setCell ⟨g, 2, none⟩ (.pointer (some ⟨M.nb, 0, none⟩))).setCell ⟨g, 3, none⟩ (.int .i64 0)).setCell ⟨cb, 0, none⟩ (.slice (some ⟨g, 0, none⟩) 2 cap)).alloc (.cells #[.pointer (some ⟨M.nb, 0, none⟩), .int .i64 0] 131)).drew := ⟨_, rfl⟩
  rw [← hW8]
  obtain ⟨S8, F8⟩ := (unhide HS).push W8 hW8
  have u0 := (F8.cell (p := ⟨t7, 0, none⟩) h7l (fun e => e.elim h7c h7g)).trans t0
  have u1 := (F8.cell (p := ⟨t7, 1, none⟩) h7l (fun e => e.elim h7c h7g)).trans t1
  have HS8 := hide S8
  clear hW8 HS c0 t0 t1 d4 kd x2 x3 z2 z3 cf hgl hcl hIlt hIclt S8 F8 h7l
  go_wp2_with fail
  have c0 := (unhide HS8).cur.c0; have hcl := (unhide HS8).cur.lt; have hgl := (unhide HS8).row.lt
  have x2 : W8.cell? ⟨g, 2, none⟩ = some (.pointer (some ⟨M.nb, 0, none⟩)) := (unhide HS8).row.cell? rfl
  have x3 : W8.cell? ⟨g, 3, none⟩ = some (.int .i64 0) := (unhide HS8).row.cell? rfl
  clear u0 u1
  have hnc : W8.heap.size ≠ cb := by omega
  have hng : W8.heap.size ≠ g := by omega
  go_region
  go_wp2_with fail
  obtain ⟨W9, hW9⟩ : ∃ W, W = (W8.alloc (.cells #[.pointer (some ⟨M.nb, 0, none⟩), .int .i64 0] 131)).drew := ⟨_, rfl⟩
  rw [← hW9]
  obtain ⟨y0, y1, F9, sz9⟩ := top_facts W8 _ _ W9 hW9
  have S9 := (unhide HS8).keep F9
  have hc4 := S9.nxt.node.c4
  have HS9 := hide S9
  clear c0 x2 x3 hcl hgl hW9 F9 HS8 S9
  rw [rounds_succ]
  go_wp2_with (go_at_call 81; refine (leaf_yes M.nb _ hc4).mono ?_; rintro e w1 ⟨rfl, hw1⟩; rw [hw1]; clear hw1 w1)
  go_end0
  exact ⟨rfl, (unhide HS9).fra, (unhide HS9).cur, (unhide HS9).row, (unhide HS9).gc⟩
end Go.Proofs.Qxb6615626a.BV
