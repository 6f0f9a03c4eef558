/-
  ZZCommitEach's closure.
-/
import Derived.Test.Qxb6615626aAcc
namespace Go.Proofs.Qxb6615626a
open Go.RowKit
set_option linter.unusedVariables false

/-- what the closure leaves -/
def CloPostB (b1 g1 b2 g2 : Nat) (xs ys : List Value) (s e : Value) (w : World) (r : Ending) (w' : World) : Prop :=
  r = .returned (.tuple #[]) ∧ ∃ g1' g2', Acc w' 22 23 b1 g1' (xs ++ [s]) ∧ Acc w' 38 48 b2 g2' (ys ++ [e]) ∧ Fr (fun k => k = b1 ∨ k = g1 ∨ k = b2 ∨ k = g2) w w' ∧
    (g1' = g1 ∨ w.heap.size ≤ g1') ∧ (g2' = g2 ∨ w.heap.size ≤ g2') ∧ g1' ≠ g2'


set_option maxRecDepth 20000 in
set_option maxHeartbeats 4000000 in
theorem cloB_more (b1 g1 c1 b2 g2 c2 : Nat) (xs ys : List Value) (s : Sl) (e : Option Addr) (w : World)
    (v1 : w.heap[b1]? = some (.cells #[.slice (some ⟨g1, 0, none⟩) xs.length c1] 22 (0, 0))) (r1 : Row w g1 23 1 xs.length c1 xs)
    (v2 : w.heap[b2]? = some (.cells #[.slice (some ⟨g2, 0, none⟩) ys.length c2] 38 (0, 0))) (r2 : Row w g2 48 1 ys.length c2 ys)
    (hx : xs.length ≤ 100000) (hy : ys.length ≤ 100000)
    (h12 : b1 ≠ b2) (hg12 : g1 ≠ g2) (hgb : g1 ≠ b2) (hgb2 : g2 ≠ b1) (h1 : g1 ≠ b1) (h2 : g2 ≠ b2) :
    Calls Try.prog 46 #[.slice s.a s.n s.c, .pointer e, .pointer (some ⟨b1, 0, none⟩), .pointer (some ⟨b2, 0, none⟩)] w (CloPostB b1 g1 b2 g2 xs ys (.slice s.a s.n s.c) (.pointer e) w) := by
  obtain ⟨i0, hin, hz0, hz1, hz2⟩ := info_parts info23
  obtain ⟨j0, jin, jz0, jz1, jz2⟩ := info_parts info48
  obtain ⟨sa, sn, sc⟩ := s
  simp only
  have hl1 : b1 < w.heap.size := (Array.getElem?_eq_some_iff.1 v1).1
  have hl2 : b2 < w.heap.size := (Array.getElem?_eq_some_iff.1 v2).1
  have hlg1 := r1.lt; have hlg2 := r2.lt
  have q1 := (var_cell v1).1
  have HV1 := hide v1; have HR1 := hide r1; have HV2 := hide v2; have HR2 := hide r2
  clear v1 r1 v2 r2
  have hn1 : w.heap.size ≠ b1 := by omega
  go_enter Try.func46, Try.ntmps46
  go_wp2_with (at_builtin; first
    | (refine wpList_append_row rfl _ _ 22 rfl 23 i0 (.slice none 0 0) 1 24 Try.underlying22 hin hz0 hz1 hz2 rfl (by decide) g1 xs.length c1 xs rfl ((unhide HR1).alloc _) _ 1 1 [.slice sa sn sc] rfl rfl (one_newAt _ _ _ _ (by simp)) (fun x hx => by simp at hx; subst hx; rfl) (by unfold maxLen; omega) (by omega) ?_
       intro g1' c1' W1 hrow1 hfr1 hg1'
       obtain ⟨WA, hWA⟩ : ∃ W, W = w.alloc (.cells #[.slice sa sn sc] 23) := ⟨_, rfl⟩
       rw [← hWA] at hfr1 hg1'
       have FA : Fr (fun _ => False) w WA := by rw [hWA]; exact (Fr.refl _ w).alloc _
       have sA : WA.heap.size = w.heap.size + 1 := by rw [hWA]; simp
       have V1 : W1.heap[b1]? = _ := (hfr1.block b1 (by omega) (fun e => h1 e.symm)).trans ((FA.block b1 hl1 (fun e => e)).trans (unhide HV1))
       have V2 : W1.heap[b2]? = _ := (hfr1.block b2 (by omega) (fun e => hgb e.symm)).trans ((FA.block b2 hl2 (fun e => e)).trans (unhide HV2))
       have R2 : Row W1 g2 48 1 ys.length c2 ys := ((unhide HR2).fr FA (fun e => e)).fr hfr1 (fun e => hg12 e.symm)
       have p1 := (var_cell V1).1; have p2 := (var_cell V1).2; have p3 := (var_cell V2).1
       have hF1 : Fr (fun k => k = g1) w W1 := (FA.mono (fun _ _ e => e.elim)).trans hfr1 (fun _ _ e => e)
       have HS1 := hide (show W1.heap.size ≥ w.heap.size + 1 from by have := hfr1.size; omega)
       have HG1 := hide (show g1' = g1 ∨ w.heap.size ≤ g1' from hg1'.imp id (fun e => by omega))
       have HG1L := hide (show g1' < W1.heap.size from hrow1.lt)
       have HROW1 := hide hrow1; have HFR1 := hide hF1; have HVV1 := hide V1; have HVV2 := hide V2; have HRR2 := hide R2
       clear HR1 hWA FA sA V1 V2 R2 hF1 hrow1 hfr1 hg1' WA)
    | (refine wpList_append_row rfl _ _ 38 rfl 48 j0 (.pointer none) 1 8 Try.underlying38 jin jz0 jz1 jz2 rfl (by decide) g2 ys.length c2 ys rfl (((unhide HRR2).setCell_other _ _ hgb2).alloc _) _ 1 1 [.pointer e] rfl rfl (one_newAt _ _ _ _ (by simp [World.setCell])) (fun x hx => by simp at hx; subst hx; rfl) (by unfold maxLen; omega) (by omega) ?_
       intro g2' c2' W2 hrow2 hfr2 hg2'
       obtain ⟨WB, hWB⟩ : ∃ W, W = (W1.setCell ⟨b1, 0, none⟩ (.slice (some ⟨g1', 0, none⟩) (xs.length + 1) c1')).alloc (.cells #[.pointer e] 48) := ⟨_, rfl⟩
       rw [← hWB] at hfr2 hg2'
       have F0 : Fr (fun k => k = b1) W1 (W1.setCell ⟨b1, 0, none⟩ (.slice (some ⟨g1', 0, none⟩) (xs.length + 1) c1')) := (Fr.refl (fun k => k = b1) W1).setCell ⟨b1, 0, none⟩ _ (fun _ => rfl)
       have FB : Fr (fun k => k = b1) W1 WB := by rw [hWB]; exact F0.alloc _
       have sB : WB.heap.size = W1.heap.size + 1 := by rw [hWB]; simp [World.setCell]
       have hs1 := unhide HS1
       have VB1 : WB.heap[b1]? = some (.cells #[.slice (some ⟨g1', 0, none⟩) (xs.length + 1) c1'] 22 (0, 0)) := by
         rw [hWB, Below.heap_alloc _ _ _ (by simp [World.setCell]; omega)]
         exact var_set (unhide HVV1) _
       have V1 : W2.heap[b1]? = _ := (hfr2.block b1 (by omega) (fun e => hgb2 e.symm)).trans VB1
       have V2 : W2.heap[b2]? = _ := (hfr2.block b2 (by omega) (fun e => h2 e.symm)).trans ((FB.block b2 (by omega) (fun e => h12 e.symm)).trans (unhide HVV2))
       have hg1b : g1' ≠ b1 := by rcases unhide HG1 with e | e <;> omega
       have hg12' : g1' ≠ g2 := by rcases unhide HG1 with e | e <;> omega
       have R1 : Row W2 g1' 23 1 (xs.length + 1) c1' (xs ++ [.slice sa sn sc]) := ((unhide HROW1).fr FB hg1b).fr hfr2 hg12'
       have p1 := (var_cell V1).1; have p2 := (var_cell V2).2; have p3 := (var_cell V2).1
       have hF2 : Fr (fun k => k = b1 ∨ k = g1 ∨ k = b2 ∨ k = g2) w W2 := (((unhide HFR1).mono (fun _ _ e => .inr (.inl e))).trans FB (fun _ _ e => .inl e)).trans hfr2 (fun _ _ e => .inr (.inr (.inr e)))
       have HG2 := hide (show g2' = g2 ∨ w.heap.size ≤ g2' from hg2'.imp id (fun e => by omega))
       have HGG := hide (show g1' ≠ g2' from by rcases hg2' with e | e
                                                · rw [e]; exact hg12'
                                                · have := unhide HG1L; omega)
       have HR1' := hide R1; have HR2' := hide hrow2; have HV1' := hide V1; have HV2' := hide V2; have HF2 := hide hF2
       have HN1 := hide hg1b
       have HS2 := hide (show w.heap.size ≤ W2.heap.size from hF2.size)
       clear HRR2 hWB FB sB VB1 V1 V2 hg1b hg12' R1 hF2 hrow2 hfr2 hg2' WB hs1 F0))
  go_end0
  refine ⟨?_, g1', g2', ?_, ?_, ?_, unhide HG1, unhide HG2, unhide HGG⟩
  · rfl
  · have hn : b1 ≠ b2 := h12
    refine ⟨.slice (some ⟨g1', 0, none⟩) (xs.length + 1) c1', ?_, .inr ⟨by simp, c1', by simp, ?_, unhide HN1⟩⟩
    · rw [Below.heap_setCell _ _ _ _ hn]; exact unhide HV1'
    · have := (unhide HR1').setCell_other ⟨b2, 0, none⟩ (.slice (some ⟨g2', 0, none⟩) (ys.length + 1) c2') (by rcases unhide HG1 with e | e <;> simp <;> omega)
      simpa using this
  · refine ⟨.slice (some ⟨g2', 0, none⟩) (ys.length + 1) c2', var_set (unhide HV2') _, .inr ⟨by simp, c2', by simp, ?_, by rcases unhide HG2 with e | e <;> omega⟩⟩
    have := (unhide HR2').setCell_other ⟨b2, 0, none⟩ (.slice (some ⟨g2', 0, none⟩) (ys.length + 1) c2') (by rcases unhide HG2 with e | e <;> simp <;> omega)
    simpa using this
  · exact (unhide HF2).setCell ⟨b2, 0, none⟩ _ (fun _ => .inr (.inr (.inl rfl)))

set_option maxRecDepth 20000 in
set_option maxHeartbeats 4000000 in
theorem cloB_first (b1 g1 b2 g2 : Nat) (s : Sl) (e : Option Addr) (w : World)
    (v1 : w.heap[b1]? = some (.cells #[.slice none 0 0] 22 (0, 0))) (v2 : w.heap[b2]? = some (.cells #[.slice none 0 0] 38 (0, 0)))
    (h12 : b1 ≠ b2) :
    Calls Try.prog 46 #[.slice s.a s.n s.c, .pointer e, .pointer (some ⟨b1, 0, none⟩), .pointer (some ⟨b2, 0, none⟩)] w (CloPostB b1 g1 b2 g2 [] [] (.slice s.a s.n s.c) (.pointer e) w) := by
  obtain ⟨i0, hin, hz0, hz1, hz2⟩ := info_parts info23
  obtain ⟨j0, jin, jz0, jz1, jz2⟩ := info_parts info48
  obtain ⟨sa, sn, sc⟩ := s
  simp only
  have hl1 : b1 < w.heap.size := (Array.getElem?_eq_some_iff.1 v1).1
  have hl2 : b2 < w.heap.size := (Array.getElem?_eq_some_iff.1 v2).1
  have q1 := (var_cell v1).1
  have HV1 := hide v1; have HV2 := hide v2; have HTOK := hide trivial
  clear v1 v2
  have hn1 : w.heap.size ≠ b1 := by omega
  go_enter Try.func46, Try.ntmps46
  go_wp2_with (at_builtin; first
    | (clear HTOK
       refine wpList_append_fresh rfl _ _ 22 rfl 23 i0 (.slice none 0 0) 1 24 Try.underlying22 hin hz0 hz1 hz2 rfl (by decide) rfl _ 1 1 [.slice sa sn sc] rfl rfl (one_newAt _ _ _ _ (by simp)) (by decide) (by unfold maxLen; omega) (by omega) ?_
       intro g1' c1' W1 hrow1 hfr1 hg1'
       obtain ⟨WA, hWA⟩ : ∃ W, W = w.alloc (.cells #[.slice sa sn sc] 23) := ⟨_, rfl⟩
       rw [← hWA] at hfr1 hg1'
       have FA : Fr (fun _ => False) w WA := by rw [hWA]; exact (Fr.refl _ w).alloc _
       have sA : WA.heap.size = w.heap.size + 1 := by rw [hWA]; simp
       have V1 : W1.heap[b1]? = _ := (hfr1.block b1 (by omega) (fun e => e)).trans ((FA.block b1 hl1 (fun e => e)).trans (unhide HV1))
       have V2 : W1.heap[b2]? = _ := (hfr1.block b2 (by omega) (fun e => e)).trans ((FA.block b2 hl2 (fun e => e)).trans (unhide HV2))
       have p1 := (var_cell V1).1; have p2 := (var_cell V1).2; have p3 := (var_cell V2).1
       have hF1 : Fr (fun _ => False) w W1 := FA.trans hfr1 (fun _ _ e => e)
       have HS1 := hide (show W1.heap.size ≥ w.heap.size + 1 from by have := hfr1.size; omega)
       have HG1 := hide (show w.heap.size ≤ g1' from by omega)
       have HG1L := hide (show g1' < W1.heap.size from hrow1.lt)
       have HROW1 := hide hrow1; have HFR1 := hide hF1; have HVV1 := hide V1; have HVV2 := hide V2
       clear hWA FA sA V1 V2 hF1 hrow1 hfr1 hg1' WA)
    | (refine wpList_append_fresh rfl _ _ 38 rfl 48 j0 (.pointer none) 1 8 Try.underlying38 jin jz0 jz1 jz2 rfl (by decide) rfl _ 1 1 [.pointer e] rfl rfl (one_newAt _ _ _ _ (by simp [World.setCell])) (by decide) (by unfold maxLen; omega) (by omega) ?_
       intro g2' c2' W2 hrow2 hfr2 hg2'
       obtain ⟨WB, hWB⟩ : ∃ W, W = (W1.setCell ⟨b1, 0, none⟩ (.slice (some ⟨g1', 0, none⟩) 1 c1')).alloc (.cells #[.pointer e] 48) := ⟨_, rfl⟩
       rw [← hWB] at hfr2 hg2'
       have F0 : Fr (fun k => k = b1) W1 (W1.setCell ⟨b1, 0, none⟩ (.slice (some ⟨g1', 0, none⟩) 1 c1')) := (Fr.refl (fun k => k = b1) W1).setCell ⟨b1, 0, none⟩ _ (fun _ => rfl)
       have FB : Fr (fun k => k = b1) W1 WB := by rw [hWB]; exact F0.alloc _
       have sB : WB.heap.size = W1.heap.size + 1 := by rw [hWB]; simp [World.setCell]
       have hs1 := unhide HS1
       have hg1 := unhide HG1
       have VB1 : WB.heap[b1]? = some (.cells #[.slice (some ⟨g1', 0, none⟩) 1 c1'] 22 (0, 0)) := by
         rw [hWB, Below.heap_alloc _ _ _ (by simp [World.setCell]; omega)]
         exact var_set (unhide HVV1) _
       have V1 : W2.heap[b1]? = _ := (hfr2.block b1 (by omega) (fun e => e)).trans VB1
       have V2 : W2.heap[b2]? = _ := (hfr2.block b2 (by omega) (fun e => e)).trans ((FB.block b2 (by omega) (fun e => h12 e.symm)).trans (unhide HVV2))
       have hg1b : g1' ≠ b1 := by omega
       have R1 : Row W2 g1' 23 1 1 c1' [.slice sa sn sc] := ((unhide HROW1).fr FB hg1b).fr hfr2 (fun e => e)
       have p1 := (var_cell V1).1; have p2 := (var_cell V2).2; have p3 := (var_cell V2).1
       have hF2 : Fr (fun k => k = b1 ∨ k = g1 ∨ k = b2 ∨ k = g2) w W2 := (((unhide HFR1).mono (fun _ _ e => e.elim)).trans FB (fun _ _ e => .inl e)).trans hfr2 (fun _ _ e => e.elim)
       have HG2 := hide (show w.heap.size ≤ g2' from by omega)
       have HGG := hide (show g1' ≠ g2' from by have := unhide HG1L; omega)
       have HR1' := hide R1; have HR2' := hide hrow2; have HV1' := hide V1; have HV2' := hide V2; have HF2 := hide hF2
       have HN1 := hide hg1b
       clear hWB FB sB VB1 V1 V2 hg1b R1 hF2 hrow2 hfr2 hg2' WB hs1 F0 hg1))
  go_end0
  have hg1 := unhide HG1; have hg2 := unhide HG2
  refine ⟨?_, g1', g2', ?_, ?_, ?_, .inr hg1, .inr hg2, unhide HGG⟩
  · rfl
  · refine ⟨.slice (some ⟨g1', 0, none⟩) 1 c1', ?_, .inr ⟨by simp, c1', by simp, ?_, unhide HN1⟩⟩
    · rw [Below.heap_setCell _ _ _ _ h12]; exact unhide HV1'
    · have := (unhide HR1').setCell_other ⟨b2, 0, none⟩ (.slice (some ⟨g2', 0, none⟩) 1 c2') (by simp; omega)
      simpa using this
  · refine ⟨.slice (some ⟨g2', 0, none⟩) 1 c2', var_set (unhide HV2') _, .inr ⟨by simp, c2', by simp, ?_, by omega⟩⟩
    have := (unhide HR2').setCell_other ⟨b2, 0, none⟩ (.slice (some ⟨g2', 0, none⟩) 1 c2') (by simp; omega)
    simpa using this
  · exact (unhide HF2).setCell ⟨b2, 0, none⟩ _ (fun _ => .inr (.inr (.inl rfl)))

/-- ZZRangeSetEach's closure -/
theorem cloB_any (b1 g1 b2 g2 : Nat) (xs ys : List Value) (s : Sl) (e : Option Addr) (w : World) (a1 : Acc w 22 23 b1 g1 xs) (a2 : Acc w 38 48 b2 g2 ys) (hl : xs.length = ys.length)
    (hx : xs.length ≤ 100000)
    (h12 : b1 ≠ b2) (hg12 : g1 ≠ g2) (hgb : g1 ≠ b2) (hgb2 : g2 ≠ b1) :
    Calls Try.prog 46 #[.slice s.a s.n s.c, .pointer e, .pointer (some ⟨b1, 0, none⟩), .pointer (some ⟨b2, 0, none⟩)] w (CloPostB b1 g1 b2 g2 xs ys (.slice s.a s.n s.c) (.pointer e) w) := by
  obtain ⟨v1, hv1, k1⟩ := a1
  obtain ⟨v2, hv2, k2⟩ := a2
  rcases k1 with ⟨rfl, rfl⟩ | ⟨n1, c1, rfl, r1, n1'⟩
  · have : ys = [] := List.length_eq_zero_iff.1 (by rw [← hl]; rfl)
    subst this
    rcases k2 with ⟨_, rfl⟩ | ⟨n2, _⟩
    · exact cloB_first b1 g1 b2 g2 s e w hv1 hv2 h12
    · exact absurd rfl n2
  · rcases k2 with ⟨rfl, rfl⟩ | ⟨n2, c2, rfl, r2, n2'⟩
    · exact absurd (List.length_eq_zero_iff.1 (by rw [hl]; rfl)) n1
    · exact cloB_more b1 g1 c1 b2 g2 c2 xs ys s e w hv1 r1 hv2 r2 hx (by omega) h12 hg12 hgb hgb2 n1' n2'
end Go.Proofs.Qxb6615626a
