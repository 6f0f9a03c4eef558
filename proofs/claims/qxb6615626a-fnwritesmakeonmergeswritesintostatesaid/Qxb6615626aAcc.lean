/-
  Variables that a closure appends to; ZZRangeSetEach's closure.
-/
import Derived.Test.Qxb6615626aZz2
namespace Go.Proofs.Qxb6615626a
open Go.RowKit
set_option linter.unusedVariables false

/-- the variable in block b (a slice of type t, elements of type e, one cell each) holds xs, in a row in block g -/
def Acc (w : World) (t e : TypeId) (b g : Nat) (xs : List Value) : Prop :=
  ∃ v, w.heap[b]? = some (.cells #[v] t (0, 0)) ∧ ((xs = [] ∧ v = .slice none 0 0) ∨ (xs ≠ [] ∧ ∃ cap, v = .slice (some ⟨g, 0, none⟩) xs.length cap ∧ Row w g e 1 xs.length cap xs ∧ g ≠ b))

theorem Acc.lt {w : World} {t e : TypeId} {b g : Nat} {xs : List Value} (h : Acc w t e b g xs) : b < w.heap.size := by
  obtain ⟨v, h, _⟩ := h; exact (Array.getElem?_eq_some_iff.1 h).1

theorem Acc.fr {F : Nat → Prop} {w w' : World} {t e : TypeId} {b g : Nat} {xs : List Value} (h : Acc w t e b g xs) (hf : Fr F w w') (hb : ¬ F b) (hg : ¬ F g) : Acc w' t e b g xs := by
  have hl := h.lt
  obtain ⟨v, h1, h2⟩ := h
  refine ⟨v, by rw [hf.block b hl hb]; exact h1, ?_⟩
  rcases h2 with h2 | ⟨h2, cap, h3, h4, h5⟩
  · exact .inl h2
  · exact .inr ⟨h2, cap, h3, h4.fr hf hg, h5⟩

theorem var_cell {w : World} {b : Nat} {v : Value} {t : TypeId} (h : w.heap[b]? = some (.cells #[v] t (0, 0))) : w.cell? ⟨b, 0, none⟩ = some v ∧ w.frozen? ⟨b, 0, none⟩ = false := by
  constructor
  · simp [World.cell?, h]
  · simp [World.frozen?, h]

theorem var_set {w : World} {b : Nat} {v : Value} {t : TypeId} (h : w.heap[b]? = some (.cells #[v] t (0, 0))) (u : Value) : (w.setCell ⟨b, 0, none⟩ u).heap[b]? = some (.cells #[u] t (0, 0)) := by
  simp [World.setCell, Array.getElem?_modify, h]

theorem one_newAt (w : World) (v : Value) (t : TypeId) (n : Nat) (hn : n = w.heap.size) : ∀ j u, [v][j]? = some u → (w.alloc (.cells #[v] t)).cell? ((⟨n, 0, none⟩ : Addr).add j) = some u := by
  subst hn; exact one_new w v t

/-- what the closure leaves -/
def CloPost (b1 g1 b2 g2 : Nat) (xs ys : List Value) (s e : Value) (stop : Int) (w : World) (r : Ending) (w' : World) : Prop :=
  r = .returned (.bool (decide ((xs.length : Int) + 1 < stop))) ∧ ∃ g1' g2', Acc w' 22 23 b1 g1' (xs ++ [s]) ∧ Acc w' 22 23 b2 g2' (ys ++ [e]) ∧ Fr (fun k => k = b1 ∨ k = g1 ∨ k = b2 ∨ k = g2) w w' ∧
    (g1' = g1 ∨ w.heap.size ≤ g1') ∧ (g2' = g2 ∨ w.heap.size ≤ g2') ∧ g1' ≠ g2'

theorem fr_alloc1 (w : World) (o : Obj) : Fr (fun _ => False) w (w.alloc o) := (Fr.refl _ w).alloc o

set_option maxRecDepth 20000 in
set_option maxHeartbeats 4000000 in
theorem clo_more (b1 g1 c1 b2 g2 c2 b3 : Nat) (xs ys : List Value) (s e : Sl) (stop : Int) (w : World)
    (v1 : w.heap[b1]? = some (.cells #[.slice (some ⟨g1, 0, none⟩) xs.length c1] 22 (0, 0))) (r1 : Row w g1 23 1 xs.length c1 xs)
    (v2 : w.heap[b2]? = some (.cells #[.slice (some ⟨g2, 0, none⟩) ys.length c2] 22 (0, 0))) (r2 : Row w g2 23 1 ys.length c2 ys)
    (v3 : w.cell? ⟨b3, 0, none⟩ = some (.int .i64 stop)) (hx : xs.length ≤ 100000) (hy : ys.length ≤ 100000)
    (h12 : b1 ≠ b2) (hg12 : g1 ≠ g2) (hgb : g1 ≠ b2) (hgb2 : g2 ≠ b1) (h1 : g1 ≠ b1) (h2 : g2 ≠ b2) (h31 : b3 ≠ b1) (h32 : b3 ≠ b2) (h3g : b3 ≠ g1) (h3h : b3 ≠ g2) :
    Calls Try.prog 43 #[.agg #[s.v, e.v], .pointer (some ⟨b1, 0, none⟩), .pointer (some ⟨b2, 0, none⟩), .pointer (some ⟨b3, 0, none⟩)] w (CloPost b1 g1 b2 g2 xs ys s.v e.v stop w) := by
  obtain ⟨i0, hin, hz0, hz1, hz2⟩ := info_parts info23
  obtain ⟨sa, sn, sc⟩ := s
  obtain ⟨ea, en, ec⟩ := e
  change Calls Try.prog 43 #[.agg #[.slice sa sn sc, .slice ea en ec], .pointer (some ⟨b1, 0, none⟩), .pointer (some ⟨b2, 0, none⟩), .pointer (some ⟨b3, 0, none⟩)] w (CloPost b1 g1 b2 g2 xs ys (.slice sa sn sc) (.slice ea en ec) stop w)
  have hl1 : b1 < w.heap.size := (Array.getElem?_eq_some_iff.1 v1).1
  have hl2 : b2 < w.heap.size := (Array.getElem?_eq_some_iff.1 v2).1
  have hl3 : b3 < w.heap.size := World.block_lt_of_cell? w _ v3
  have hlg1 := r1.lt; have hlg2 := r2.lt
  have q1 := (var_cell v1).1
  have HV1 := hide v1; have HR1 := hide r1; have HV2 := hide v2; have HR2 := hide r2; have HV3 := hide v3; have HH := hide (⟨h12, hg12, hgb, hgb2, h1, h2, h31, h32, h3g, h3h⟩ : b1 ≠ b2 ∧ g1 ≠ g2 ∧ g1 ≠ b2 ∧ g2 ≠ b1 ∧ g1 ≠ b1 ∧ g2 ≠ b2 ∧ b3 ≠ b1 ∧ b3 ≠ b2 ∧ b3 ≠ g1 ∧ b3 ≠ g2)
  clear v1 r1 v2 r2 v3
  have hn1 : w.heap.size ≠ b1 := by omega
  go_enter Try.func43, Try.ntmps43
  go_wp2_with (at_builtin; first
    | (refine wpList_append_row rfl _ _ 22 rfl 23 i0 (.slice none 0 0) 1 24 Try.underlying22 hin hz0 hz1 hz2 rfl (by decide) g1 xs.length c1 xs rfl (((unhide HR1).alloc _).alloc _) _ 1 1 [.slice sa sn sc] rfl rfl (one_newAt _ _ _ _ (by simp)) (fun x hx => by simp at hx; subst hx; rfl) (by unfold maxLen; omega) (by omega) ?_
       intro g1' c1' W1 hrow1 hfr1 hg1'
       obtain ⟨WA, hWA⟩ : ∃ W, W = (w.alloc (.cells #[.slice sa sn sc, .slice ea en ec] 74)).alloc (.cells #[.slice sa sn sc] 23) := ⟨_, rfl⟩
       rw [← hWA] at hfr1 hg1'
       have FA : Fr (fun _ => False) w WA := by rw [hWA]; exact ((Fr.refl _ w).alloc _).alloc _
       have sA : WA.heap.size = w.heap.size + 2 := by rw [hWA]; simp
       have bA : WA.cell? ⟨w.heap.size, 1, none⟩ = some (.slice ea en ec) := by rw [hWA]; simp
       have V1 : W1.heap[b1]? = _ := (hfr1.block b1 (by omega) (fun e => h1 e.symm)).trans ((FA.block b1 hl1 (fun e => e)).trans (unhide HV1))
       have V2 : W1.heap[b2]? = _ := (hfr1.block b2 (by omega) (fun e => hgb e.symm)).trans ((FA.block b2 hl2 (fun e => e)).trans (unhide HV2))
       have R2 : Row W1 g2 23 1 ys.length c2 ys := ((unhide HR2).fr FA (fun e => e)).fr hfr1 (fun e => hg12 e.symm)
       have B1 : W1.cell? ⟨w.heap.size, 1, none⟩ = some (.slice ea en ec) := (hfr1.cell (p := ⟨w.heap.size, 1, none⟩) (by show w.heap.size < _; omega) (fun e => by simp at e; omega)).trans bA
       have V3 : W1.cell? ⟨b3, 0, none⟩ = some (.int .i64 stop) := (hfr1.cell (p := ⟨b3, 0, none⟩) (by show b3 < _; omega) h3g).trans ((FA.cell (p := ⟨b3, 0, none⟩) hl3 (fun e => e)).trans (unhide HV3))
       have p1 := (var_cell V1).1; have p2 := (var_cell V1).2; have p3 := (var_cell V2).1
       have hF1 : Fr (fun k => k = g1) w W1 := (FA.mono (fun _ _ e => e.elim)).trans hfr1 (fun _ _ e => e)
       have HS1 := hide (show W1.heap.size ≥ w.heap.size + 2 from by have := hfr1.size; omega)
       have HG1 := hide (show g1' = g1 ∨ w.heap.size ≤ g1' from hg1'.imp id (fun e => by omega))
       have HG1L := hide (show g1' < W1.heap.size from hrow1.lt)
       have HROW1 := hide hrow1; have HFR1 := hide hF1; have HVV1 := hide V1; have HVV2 := hide V2; have HRR2 := hide R2
       clear HR1 hWA FA sA bA V1 V2 R2 hF1 hrow1 hfr1 hg1' WA)
    | (refine wpList_append_row rfl _ _ 22 rfl 23 i0 (.slice none 0 0) 1 24 Try.underlying22 hin hz0 hz1 hz2 rfl (by decide) g2 ys.length c2 ys rfl (((unhide HRR2).setCell_other _ _ hgb2).alloc _) _ 1 1 [.slice ea en ec] rfl rfl (one_newAt _ _ _ _ (by simp [World.setCell])) (fun x hx => by simp at hx; subst hx; rfl) (by unfold maxLen; omega) (by omega) ?_
       intro g2' c2' W2 hrow2 hfr2 hg2'
       obtain ⟨WB, hWB⟩ : ∃ W, W = (W1.setCell ⟨b1, 0, none⟩ (.slice (some ⟨g1', 0, none⟩) (xs.length + 1) c1')).alloc (.cells #[.slice ea en ec] 23) := ⟨_, rfl⟩
       rw [← hWB] at hfr2 hg2'
       have F0 : Fr (fun k => k = b1) W1 (W1.setCell ⟨b1, 0, none⟩ (.slice (some ⟨g1', 0, none⟩) (xs.length + 1) c1')) := (Fr.refl (fun k => k = b1) W1).setCell ⟨b1, 0, none⟩ _ (fun _ => rfl)
       have FB : Fr (fun k => k = b1) W1 WB := by rw [hWB]; exact F0.alloc _
       have sB : WB.heap.size = W1.heap.size + 1 := by rw [hWB]; simp [World.setCell]
       have hs1 := unhide HS1
       have VB1 : WB.heap[b1]? = some (.cells #[.slice (some ⟨g1', 0, none⟩) (xs.length + 1) c1'] 22 (0, 0)) := by
         rw [hWB, Below.heap_alloc _ _ _ (by simp [World.setCell]; omega)]
         exact var_set (unhide HVV1) _
       have V1 : W2.heap[b1]? = _ := (hfr2.block b1 (by omega) (fun e => hgb2 e.symm)).trans VB1
       have V2 : W2.heap[b2]? = _ := (hfr2.block b2 (by omega) (fun e => h2 e.symm)).trans ((FB.block b2 (by omega) (fun e => h12 e.symm)).trans (unhide HVV2))
       have hg1b : g1' ≠ b1 := by rcases unhide HG1 with e | e <;> omega
       have hg12' : g1' ≠ g2 := by rcases unhide HG1 with e | e <;> omega
       have R1 : Row W2 g1' 23 1 (xs.length + 1) c1' (xs ++ [.slice sa sn sc]) := ((unhide HROW1).fr FB hg1b).fr hfr2 hg12'
       have V3 : W2.cell? ⟨b3, 0, none⟩ = some (.int .i64 stop) := (hfr2.cell (p := ⟨b3, 0, none⟩) (by show b3 < _; omega) h3h).trans ((FB.cell (p := ⟨b3, 0, none⟩) (by show b3 < _; omega) h31).trans V3)
       have p1 := (var_cell V1).1; have p2 := (var_cell V2).2; have p3 := (var_cell V2).1
       have hF2 : Fr (fun k => k = b1 ∨ k = g1 ∨ k = b2 ∨ k = g2) w W2 := (((unhide HFR1).mono (fun _ _ e => .inr (.inl e))).trans FB (fun _ _ e => .inl e)).trans hfr2 (fun _ _ e => .inr (.inr (.inr e)))
       have HG2 := hide (show g2' = g2 ∨ w.heap.size ≤ g2' from hg2'.imp id (fun e => by omega))
       have HGG := hide (show g1' ≠ g2' from by rcases hg2' with e | e
                                                · rw [e]; exact hg12'
                                                · have := unhide HG1L; omega)
       have HR1' := hide R1; have HR2' := hide hrow2; have HV1' := hide V1; have HV2' := hide V2; have HF2 := hide hF2
       have HN1 := hide hg1b
       have HS2 := hide (show w.heap.size ≤ W2.heap.size from hF2.size)
       clear HRR2 hWB FB sB VB1 V1 V2 hg1b hg12' R1 hF2 hrow2 hfr2 hg2' WB hs1 F0))
  go_ret
  refine ⟨?_, g1', g2', ?_, ?_, ?_, unhide HG1, unhide HG2, unhide HGG⟩
  · first | rfl | exact ret_bool (by simp)
  · have hn : b1 ≠ b2 := h12
    refine ⟨.slice (some ⟨g1', 0, none⟩) (xs.length + 1) c1', ?_, .inr ⟨by simp, c1', by simp, ?_, unhide HN1⟩⟩
    · rw [Below.heap_setCell _ _ _ _ hn]; exact unhide HV1'
    · have := (unhide HR1').setCell_other ⟨b2, 0, none⟩ (.slice (some ⟨g2', 0, none⟩) (ys.length + 1) c2') (by rcases unhide HG1 with e | e <;> simp <;> omega)
      simpa using this
  · refine ⟨.slice (some ⟨g2', 0, none⟩) (ys.length + 1) c2', var_set (unhide HV2') _, .inr ⟨by simp, c2', by simp, ?_, by rcases unhide HG2 with e | e <;> omega⟩⟩
    have := (unhide HR2').setCell_other ⟨b2, 0, none⟩ (.slice (some ⟨g2', 0, none⟩) (ys.length + 1) c2') (by rcases unhide HG2 with e | e <;> simp <;> omega)
    simpa using this
  · exact (unhide HF2).setCell ⟨b2, 0, none⟩ _ (fun _ => .inr (.inr (.inl rfl)))

set_option maxRecDepth 20000 in
set_option maxHeartbeats 4000000 in
theorem clo_first (b1 g1 b2 g2 b3 : Nat) (s e : Sl) (stop : Int) (w : World)
    (v1 : w.heap[b1]? = some (.cells #[.slice none 0 0] 22 (0, 0))) (v2 : w.heap[b2]? = some (.cells #[.slice none 0 0] 22 (0, 0)))
    (v3 : w.cell? ⟨b3, 0, none⟩ = some (.int .i64 stop)) (h12 : b1 ≠ b2) (h31 : b3 ≠ b1) (h32 : b3 ≠ b2) :
    Calls Try.prog 43 #[.agg #[s.v, e.v], .pointer (some ⟨b1, 0, none⟩), .pointer (some ⟨b2, 0, none⟩), .pointer (some ⟨b3, 0, none⟩)] w (CloPost b1 g1 b2 g2 [] [] s.v e.v stop w) := by
  obtain ⟨i0, hin, hz0, hz1, hz2⟩ := info_parts info23
  obtain ⟨sa, sn, sc⟩ := s
  obtain ⟨ea, en, ec⟩ := e
  change Calls Try.prog 43 #[.agg #[.slice sa sn sc, .slice ea en ec], .pointer (some ⟨b1, 0, none⟩), .pointer (some ⟨b2, 0, none⟩), .pointer (some ⟨b3, 0, none⟩)] w (CloPost b1 g1 b2 g2 [] [] (.slice sa sn sc) (.slice ea en ec) stop w)
  have hl1 : b1 < w.heap.size := (Array.getElem?_eq_some_iff.1 v1).1
  have hl2 : b2 < w.heap.size := (Array.getElem?_eq_some_iff.1 v2).1
  have hl3 : b3 < w.heap.size := World.block_lt_of_cell? w _ v3
  have q1 := (var_cell v1).1
  have HV1 := hide v1; have HV2 := hide v2; have HV3 := hide v3; have HTOK := hide trivial
  clear v1 v2 v3
  have hn1 : w.heap.size ≠ b1 := by omega
  go_enter Try.func43, Try.ntmps43
  go_wp2_with (at_builtin; first
    | (clear HTOK
       refine wpList_append_fresh rfl _ _ 22 rfl 23 i0 (.slice none 0 0) 1 24 Try.underlying22 hin hz0 hz1 hz2 rfl (by decide) rfl _ 1 1 [.slice sa sn sc] rfl rfl (one_newAt _ _ _ _ (by simp)) (by decide) (by unfold maxLen; omega) (by omega) ?_
       intro g1' c1' W1 hrow1 hfr1 hg1'
       obtain ⟨WA, hWA⟩ : ∃ W, W = (w.alloc (.cells #[.slice sa sn sc, .slice ea en ec] 74)).alloc (.cells #[.slice sa sn sc] 23) := ⟨_, rfl⟩
       rw [← hWA] at hfr1 hg1'
       have FA : Fr (fun _ => False) w WA := by rw [hWA]; exact ((Fr.refl _ w).alloc _).alloc _
       have sA : WA.heap.size = w.heap.size + 2 := by rw [hWA]; simp
       have bA : WA.cell? ⟨w.heap.size, 1, none⟩ = some (.slice ea en ec) := by rw [hWA]; simp
       have V1 : W1.heap[b1]? = _ := (hfr1.block b1 (by omega) (fun e => e)).trans ((FA.block b1 hl1 (fun e => e)).trans (unhide HV1))
       have V2 : W1.heap[b2]? = _ := (hfr1.block b2 (by omega) (fun e => e)).trans ((FA.block b2 hl2 (fun e => e)).trans (unhide HV2))
       have B1 : W1.cell? ⟨w.heap.size, 1, none⟩ = some (.slice ea en ec) := (hfr1.cell (p := ⟨w.heap.size, 1, none⟩) (by show w.heap.size < _; omega) (fun e => e)).trans bA
       have V3 : W1.cell? ⟨b3, 0, none⟩ = some (.int .i64 stop) := (hfr1.cell (p := ⟨b3, 0, none⟩) (by show b3 < _; omega) (fun e => e)).trans ((FA.cell (p := ⟨b3, 0, none⟩) hl3 (fun e => e)).trans (unhide HV3))
       have p1 := (var_cell V1).1; have p2 := (var_cell V1).2; have p3 := (var_cell V2).1
       have hF1 : Fr (fun _ => False) w W1 := FA.trans hfr1 (fun _ _ e => e)
       have HS1 := hide (show W1.heap.size ≥ w.heap.size + 2 from by have := hfr1.size; omega)
       have HG1 := hide (show w.heap.size ≤ g1' from by omega)
       have HG1L := hide (show g1' < W1.heap.size from hrow1.lt)
       have HROW1 := hide hrow1; have HFR1 := hide hF1; have HVV1 := hide V1; have HVV2 := hide V2
       clear hWA FA sA bA V1 V2 hF1 hrow1 hfr1 hg1' WA)
    | (refine wpList_append_fresh rfl _ _ 22 rfl 23 i0 (.slice none 0 0) 1 24 Try.underlying22 hin hz0 hz1 hz2 rfl (by decide) rfl _ 1 1 [.slice ea en ec] rfl rfl (one_newAt _ _ _ _ (by simp [World.setCell])) (by decide) (by unfold maxLen; omega) (by omega) ?_
       intro g2' c2' W2 hrow2 hfr2 hg2'
       obtain ⟨WB, hWB⟩ : ∃ W, W = (W1.setCell ⟨b1, 0, none⟩ (.slice (some ⟨g1', 0, none⟩) 1 c1')).alloc (.cells #[.slice ea en ec] 23) := ⟨_, rfl⟩
       rw [← hWB] at hfr2 hg2'
       have F0 : Fr (fun k => k = b1) W1 (W1.setCell ⟨b1, 0, none⟩ (.slice (some ⟨g1', 0, none⟩) 1 c1')) := (Fr.refl (fun k => k = b1) W1).setCell ⟨b1, 0, none⟩ _ (fun _ => rfl)
       have FB : Fr (fun k => k = b1) W1 WB := by rw [hWB]; exact F0.alloc _
       have sB : WB.heap.size = W1.heap.size + 1 := by rw [hWB]; simp [World.setCell]
       have hs1 := unhide HS1
       have hg1 := unhide HG1
       have VB1 : WB.heap[b1]? = some (.cells #[.slice (some ⟨g1', 0, none⟩) 1 c1'] 22 (0, 0)) := by
         rw [hWB, Below.heap_alloc _ _ _ (by simp [World.setCell]; omega)]
         exact var_set (unhide HVV1) _
       have V1 : W2.heap[b1]? = _ := (hfr2.block b1 (by omega) (fun e => e)).trans VB1
       have V2 : W2.heap[b2]? = _ := (hfr2.block b2 (by omega) (fun e => e)).trans ((FB.block b2 (by omega) (fun e => h12 e.symm)).trans (unhide HVV2))
       have hg1b : g1' ≠ b1 := by omega
       have R1 : Row W2 g1' 23 1 1 c1' [.slice sa sn sc] := ((unhide HROW1).fr FB hg1b).fr hfr2 (fun e => e)
       have V3 : W2.cell? ⟨b3, 0, none⟩ = some (.int .i64 stop) := (hfr2.cell (p := ⟨b3, 0, none⟩) (by show b3 < _; omega) (fun e => e)).trans ((FB.cell (p := ⟨b3, 0, none⟩) (by show b3 < _; omega) h31).trans V3)
       have p1 := (var_cell V1).1; have p2 := (var_cell V2).2; have p3 := (var_cell V2).1
       have hF2 : Fr (fun k => k = b1 ∨ k = g1 ∨ k = b2 ∨ k = g2) w W2 := (((unhide HFR1).mono (fun _ _ e => e.elim)).trans FB (fun _ _ e => .inl e)).trans hfr2 (fun _ _ e => e.elim)
       have HG2 := hide (show w.heap.size ≤ g2' from by omega)
       have HGG := hide (show g1' ≠ g2' from by have := unhide HG1L; omega)
       have HR1' := hide R1; have HR2' := hide hrow2; have HV1' := hide V1; have HV2' := hide V2; have HF2 := hide hF2
       have HN1 := hide hg1b
       clear hWB FB sB VB1 V1 V2 hg1b R1 hF2 hrow2 hfr2 hg2' WB hs1 F0 hg1))
  go_ret
  have hg1 := unhide HG1; have hg2 := unhide HG2
  refine ⟨?_, g1', g2', ?_, ?_, ?_, .inr hg1, .inr hg2, unhide HGG⟩
  · first | rfl | exact ret_bool (by simp)
  · refine ⟨.slice (some ⟨g1', 0, none⟩) 1 c1', ?_, .inr ⟨by simp, c1', by simp, ?_, unhide HN1⟩⟩
    · rw [Below.heap_setCell _ _ _ _ h12]; exact unhide HV1'
    · have := (unhide HR1').setCell_other ⟨b2, 0, none⟩ (.slice (some ⟨g2', 0, none⟩) 1 c2') (by simp; omega)
      simpa using this
  · refine ⟨.slice (some ⟨g2', 0, none⟩) 1 c2', var_set (unhide HV2') _, .inr ⟨by simp, c2', by simp, ?_, by omega⟩⟩
    have := (unhide HR2').setCell_other ⟨b2, 0, none⟩ (.slice (some ⟨g2', 0, none⟩) 1 c2') (by simp; omega)
    simpa using this
  · exact (unhide HF2).setCell ⟨b2, 0, none⟩ _ (fun _ => .inr (.inr (.inl rfl)))

/-- ZZRangeSetEach's closure -/
theorem clo_any (b1 g1 b2 g2 b3 : Nat) (xs ys : List Value) (s e : Sl) (stop : Int) (w : World) (a1 : Acc w 22 23 b1 g1 xs) (a2 : Acc w 22 23 b2 g2 ys) (hl : xs.length = ys.length)
    (v3 : w.cell? ⟨b3, 0, none⟩ = some (.int .i64 stop)) (hx : xs.length ≤ 100000)
    (h12 : b1 ≠ b2) (hg12 : g1 ≠ g2) (hgb : g1 ≠ b2) (hgb2 : g2 ≠ b1) (h31 : b3 ≠ b1) (h32 : b3 ≠ b2) (h3g : b3 ≠ g1) (h3h : b3 ≠ g2) :
    Calls Try.prog 43 #[.agg #[s.v, e.v], .pointer (some ⟨b1, 0, none⟩), .pointer (some ⟨b2, 0, none⟩), .pointer (some ⟨b3, 0, none⟩)] w (CloPost b1 g1 b2 g2 xs ys s.v e.v stop w) := by
  obtain ⟨v1, hv1, k1⟩ := a1
  obtain ⟨v2, hv2, k2⟩ := a2
  rcases k1 with ⟨rfl, rfl⟩ | ⟨n1, c1, rfl, r1, n1'⟩
  · have : ys = [] := List.length_eq_zero_iff.1 (by rw [← hl]; rfl)
    subst this
    rcases k2 with ⟨_, rfl⟩ | ⟨n2, _⟩
    · exact clo_first b1 g1 b2 g2 b3 s e stop w hv1 hv2 v3 h12 h31 h32
    · exact absurd rfl n2
  · rcases k2 with ⟨rfl, rfl⟩ | ⟨n2, c2, rfl, r2, n2'⟩
    · exact absurd (List.length_eq_zero_iff.1 (by rw [hl]; rfl)) n1
    · exact clo_more b1 g1 c1 b2 g2 c2 b3 xs ys s e stop w hv1 r1 hv2 r2 v3 hx (by omega) h12 hg12 hgb hgb2 n1' n2' h31 h32 h3g h3h
end Go.Proofs.Qxb6615626a
