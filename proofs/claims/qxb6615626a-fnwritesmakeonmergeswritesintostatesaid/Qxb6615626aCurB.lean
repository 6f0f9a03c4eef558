/-
  Cursors (V by the namespace): Valid, Key, Value, settle, Next, Cursor.
-/
import Derived.Test.Qxb6615626aSetB
import Derived.BigRegion
import Derived.LoopN
namespace Go.Proofs.Qxb6615626a.BV
open Go.RowKit
set_option linter.unusedVariables false

/-- a cursor's block: its path, no end -/
def CurB (w : World) (cb : Nat) (pv : Value) : Prop := w.heap[cb]? = some (.cells #[pv, .slice none 0 0] 129 (0, 0))

section
variable {w w' : World} {cb : Nat} {pv : Value}
theorem CurB.c0 (h : CurB w cb pv) : w.cell? ⟨cb, 0, none⟩ = some pv := by unfold CurB at h; simp [World.cell?, h]
theorem CurB.c1 (h : CurB w cb pv) : w.cell? ⟨cb, 1, none⟩ = some (.slice none 0 0) := by unfold CurB at h; simp [World.cell?, h]
theorem CurB.fz (h : CurB w cb pv) (j : Nat) : w.frozen? ⟨cb, j, none⟩ = false := by unfold CurB at h; simp [World.frozen?, h]
theorem CurB.lt (h : CurB w cb pv) : cb < w.heap.size := (Array.getElem?_eq_some_iff.1 h).1
theorem CurB.of_block (h : CurB w cb pv) (hb : w'.heap[cb]? = w.heap[cb]?) : CurB w' cb pv := by unfold CurB; rw [hb]; exact h
theorem CurB.fr {F : Nat → Prop} (h : CurB w cb pv) (hf : Fr F w w') (hn : ¬ F cb) : CurB w' cb pv := h.of_block (hf.block cb h.lt hn)
theorem CurB.set0 (h : CurB w cb pv) (u : Value) : CurB (w.setCell ⟨cb, 0, none⟩ u) cb u := by unfold CurB at h ⊢; simp [World.setCell, Array.getElem?_modify, h]
theorem CurB.alloc (h : CurB w cb pv) (o : Obj) : CurB (w.alloc o) cb pv := h.of_block (Below.heap_alloc _ _ _ h.lt)
end

set_option maxHeartbeats 1000000 in
theorem valid_no (cb : Nat) (a : Option Addr) (c : Nat) (w : World) (h : CurB w cb (.slice a 0 c)) :
    Calls Try.prog 49 #[.pointer (some ⟨cb, 0, none⟩)] w fun e w' => e = .returned (.bool false) ∧ w' = w := by
  have c0 := h.c0
  clear h
  go_enter Try.func49, Try.ntmps49
  go_wp2
  go_ret
  exact ⟨rfl, rfl⟩

set_option maxHeartbeats 1000000 in
theorem valid_yes (cb : Nat) (a : Option Addr) (n c : Nat) (w : World) (h : CurB w cb (.slice a n c)) (hn : n = 1 ∨ n = 2) :
    Calls Try.prog 49 #[.pointer (some ⟨cb, 0, none⟩)] w fun e w' => e = .returned (.bool true) ∧ ∃ k, w' = w.drewN k := by
  have c0 := h.c0
  have c1 := h.c1
  clear h
  rcases hn with rfl | rfl
  all_goals
    go_enter Try.func49, Try.ntmps49
    go_wp2_with fail
    go_quiet (fail)
    go_wp2_with fail
    go_ret
    exact ⟨rfl, nq, rfl⟩

set_option maxHeartbeats 1000000 in
theorem key_any (cb g cap n o nb i : Nat) (L : Lf) (w : World) (hn : n = 1 ∧ o = 0 ∨ n = 2 ∧ o = 2) (h : CurB w cb (.slice (some ⟨g, 0, none⟩) n cap))
    (h0 : w.cell? ⟨g, o, none⟩ = some (.pointer (some ⟨L.nb, 0, none⟩))) (h1 : w.cell? ⟨g, o + 1, none⟩ = some (.int .i64 i)) (hL : L.At w) (hi : i < L.es.length) :
    Calls Try.prog 53 #[.pointer (some ⟨cb, 0, none⟩)] w fun e w' => e = .returned L.es[i].1.v ∧ Fr (fun _ => False) w w' := by
  have c0 := h.c0
  have hcl := h.lt
  have hgl : g < w.heap.size := World.block_lt_of_cell? w _ h0
  have d2 := hL.node.c2
  have hlt := hL.node.lt
  obtain ⟨s, hs⟩ : ∃ s, s = L.es[i].1 := ⟨_, rfl⟩
  have hk : w.cell? ⟨L.kb, i, none⟩ = some (.slice s.a s.n s.c) := by rw [hs]; exact hL.keys.cell? (kvs_get _ _ hi)
  have hkl := hL.keys.lt
  have HS := hide hs
  clear hL h hs
  rcases hn with ⟨rfl, rfl⟩ | ⟨rfl, rfl⟩
  all_goals
    go_enter Try.func53, Try.ntmps53
    go_wp2_with fail
    go_region
    go_wp2_with fail
    go_quiet (fail)
    go_wp2_with fail
    go_ret
    refine ⟨?_, (((Fr.refl _ w).alloc _).drew).drewN nq⟩
    have := unhide HS
    rw [← this]; rfl

set_option maxHeartbeats 1000000 in
theorem value_any (cb g cap n o nb i : Nat) (L : Lf) (w : World) (hn : n = 1 ∧ o = 0 ∨ n = 2 ∧ o = 2) (h : CurB w cb (.slice (some ⟨g, 0, none⟩) n cap))
    (h0 : w.cell? ⟨g, o, none⟩ = some (.pointer (some ⟨L.nb, 0, none⟩))) (h1 : w.cell? ⟨g, o + 1, none⟩ = some (.int .i64 i)) (hL : L.At w) (hi : i < L.es.length) :
    Calls Try.prog 51 #[.pointer (some ⟨cb, 0, none⟩)] w fun e w' => e = .returned (Value.pointer L.es[i].2) ∧ Fr (fun _ => False) w w' := by
  have c0 := h.c0
  have hcl := h.lt
  have hgl : g < w.heap.size := World.block_lt_of_cell? w _ h0
  have d3 := hL.node.c3
  have hlt := hL.node.lt
  obtain ⟨s, hs⟩ : ∃ s, s = L.es[i].2 := ⟨_, rfl⟩
  have hk : w.cell? ⟨L.vb, i, none⟩ = some (Value.pointer s) := by rw [hs]; exact hL.vals.cell? (vvs_get _ _ hi)
  have hkl := hL.vals.lt
  have HS := hide hs
  clear hL h hs
  rcases hn with ⟨rfl, rfl⟩ | ⟨rfl, rfl⟩
  all_goals
    go_enter Try.func51, Try.ntmps51
    go_wp2_with fail
    go_region
    go_wp2_with fail
    go_quiet (fail)
    go_wp2_with fail
    go_ret
    refine ⟨?_, (((Fr.refl _ w).alloc _).drew).drewN nq⟩
    have := unhide HS
    rw [← this]; rfl

theorem top_facts (w : World) (a b : Value) (W : World) (h : W = (w.alloc (.cells #[a, b] 131)).drew) :
    W.cell? ⟨w.heap.size, 0, none⟩ = some a ∧ W.cell? ⟨w.heap.size, 1, none⟩ = some b ∧ Fr (fun _ => False) w W ∧ w.heap.size < W.heap.size := by
  subst h
  refine ⟨by simp, by simp, ((Fr.refl _ w).alloc _).drew, by simp⟩

/-- the cursor's top step: node nb, place i -/
structure Top (w : World) (cb g cap n o nb i : Nat) : Prop where
  cur : CurB w cb (.slice (some ⟨g, 0, none⟩) n cap)
  h0 : w.cell? ⟨g, o, none⟩ = some (.pointer (some ⟨nb, 0, none⟩))
  h1 : w.cell? ⟨g, o + 1, none⟩ = some (.int .i64 i)

theorem Top.glt {w : World} {cb g cap n o nb i : Nat} (h : Top w cb g cap n o nb i) : g < w.heap.size := World.block_lt_of_cell? w _ h.h0
theorem Top.fr {F : Nat → Prop} {w w' : World} {cb g cap n o nb i : Nat} (h : Top w cb g cap n o nb i) (hf : Fr F w w') (hc : ¬ F cb) (hg : ¬ F g) : Top w' cb g cap n o nb i :=
  ⟨h.cur.fr hf hc, (hf.cell (p := ⟨g, o, none⟩) h.glt hg).trans h.h0, (hf.cell (p := ⟨g, o + 1, none⟩) h.glt hg).trans h.h1⟩

set_option maxHeartbeats 2000000 in
/-- settle where the cursor stands at an entry -/
theorem settle_stay (cb g cap n o i : Nat) (L : Lf) (w : World) (hn : n = 1 ∧ o = 0 ∨ n = 2 ∧ o = 2) (h : Top w cb g cap n o L.nb i) (hL : L.At w) (hi : i < L.es.length) :
    Calls Try.prog 78 #[.pointer (some ⟨cb, 0, none⟩)] w fun e w' => e = .returned (.tuple #[]) ∧ Fr (fun _ => False) w w' := by
  have c0 := h.cur.c0
  have hcl := h.cur.lt
  have hgl := h.glt
  have h0 := h.h0; have h1 := h.h1
  have hd : decide ((i : Int) < (L.es.length : Int)) = true := by rw [decide_eq_true_iff]; omega
  have HLA := hide hL; have HS := hide h
  clear hL h
  rcases hn with ⟨rfl, rfl⟩ | ⟨rfl, rfl⟩
  all_goals
    go_enter Try.func78, Try.ntmps78
    go_wp2_with fail
    refine wp_loop_rounds 1 ?_
    rw [rounds_succ]
    go_wp2_with fail
    go_region
    go_wp2_with fail
    obtain ⟨W1, hW1⟩ : ∃ W, W = (w.alloc (.cells #[.pointer (some ⟨L.nb, 0, none⟩), .int .i64 i] 131)).drew := ⟨_, rfl⟩
    rw [← hW1]
    obtain ⟨t0, t1, F1, sz⟩ := top_facts w _ _ W1 hW1
    have S1 := (unhide HS).fr F1 (fun e => e) (fun e => e)
    have L1 := (unhide HLA).fr F1 (fun _ _ e => e)
    clear c0 hcl hgl h0 h1 hW1
    generalize w.heap.size = tb at *
    have d2 := L1.node.c2; have d4 := L1.node.c4; have c0 := S1.cur.c0; have h0 := S1.h0; have h1 := S1.h1
    have HF1 := hide F1; have HL1 := hide L1; have HS1 := hide S1
    clear F1 L1 S1 sz
    go_quiet ((go_at_call 72; exact Calls.quiet_of_same (size_leaf L.nb _ _ _ _ (by exact d2) (by exact d4))))
    go_wp2_with fail
    obtain ⟨W2, hW2⟩ : ∃ W, W = W1.drewN nq := ⟨_, rfl⟩
    rw [← hW2]
    have F2 : Fr (fun _ => False) W1 W2 := by rw [hW2]; exact (Fr.refl _ W1).drewN nq
    have S2 := (unhide HS1).fr F2 (fun e => e) (fun e => e)
    have L2 := (unhide HL1).fr F2 (fun _ _ e => e)
    clear c0 h0 h1 hW2 t0 t1 d2 d4
    have c0 := S2.cur.c0; have h0 := S2.h0; have h1 := S2.h1; have hcl := S2.cur.lt; have hgl := S2.glt
    have HF2 := hide F2; have HL2 := hide L2
    clear F2 L2 S2
    go_region
    go_wp2_with fail
    obtain ⟨W3, hW3⟩ : ∃ W, W = (W2.alloc (.cells #[.pointer (some ⟨L.nb, 0, none⟩), .int .i64 i] 131)).drew := ⟨_, rfl⟩
    rw [← hW3]
    obtain ⟨t0, t1, F3, sz⟩ := top_facts W2 _ _ W3 hW3
    have L3 := (unhide HL2).fr F3 (fun _ _ e => e)
    have d4 := L3.node.c4
    clear c0 hcl hgl h0 h1 hW3
    generalize W2.heap.size = tb3 at *
    have HF3 := hide F3
    clear F3 L3 sz
    refine wp_loop_rounds 1 ?_
    rw [rounds_succ]
    go_wp2_with (go_at_call 81; refine (leaf_yes L.nb _ d4).mono ?_; rintro e w9 ⟨rfl, hw9⟩; rw [hw9]; clear hw9 w9)
    go_end0
    exact ⟨rfl, ((unhide HF1).trans (unhide HF2) (fun _ _ e => e)).trans (unhide HF3) (fun _ _ e => e)⟩

end Go.Proofs.Qxb6615626a.BV
