/-
  split of a leaf (V by the namespace).
-/
import Derived.Test.Qxb6615626aPutB
import Derived.Deep.RegionWith
namespace Go.Proofs.Qxb6615626a.BV
open Go.RowKit
set_option linter.unusedVariables false

set_option maxHeartbeats 20000000 in
theorem split_leaf (L : Lf) (eb : Nat) (w : World) (h : L.At w) (he : w.cell? ⟨eb, 1, none⟩ = some (.pointer none)) (heb : eb ≠ L.nb) (hlo : 2 ≤ L.es.length) (hlen : L.es.length ≤ 500) :
    Calls Try.prog 74 #[.pointer (some ⟨eb, 0, none⟩), .pointer (some ⟨L.nb, 0, none⟩)] w fun e w' => 
      ∃ L1 R : Lf, e = .returned (.tuple #[.pointer (some ⟨R.nb, 0, none⟩), (L.es[L.es.length / 2]'(by omega)).1.v]) ∧ L1.At w' ∧ R.At w' ∧ L1.nb = L.nb ∧ L1.es = L.es.take (L.es.length / 2) ∧ R.es = L.es.drop (L.es.length / 2) ∧
      Fr L.own w w' ∧ (∀ k, L1.own k → L.own k ∨ w.heap.size ≤ k) ∧ (∀ k, R.own k → w.heap.size ≤ k) ∧ (∀ k, L1.own k → R.own k → False) := by
  have hc1 := h.node.c1
  have hc2 := h.node.c2
  have hc3 := h.node.c3
  have hc4 := h.node.c4
  have hf1 := h.node.fz 1
  have hkc : L.es.length ≤ L.kc := by obtain ⟨_, _, _, h, _⟩ := h.keys; exact h
  have hkm : L.kc ≤ 9223372036854775807 := by obtain ⟨_, _, _, _, h, _⟩ := h.keys; unfold maxLen at h; exact h
  have hvc : L.es.length ≤ L.vc := by obtain ⟨_, _, _, h, _⟩ := h.vals; exact h
  have hvm : L.vc ≤ 9223372036854775807 := by obtain ⟨_, _, _, _, h, _⟩ := h.vals; unfold maxLen at h; exact h
  have hnlt := h.node.lt
  have H := hide h
  clear h
  go_enter Try.func74, Try.ntmps74
  go_wp2_with (first | (go_at_call 72; refine (size_leaf L.nb _ _ _ _ hc2 hc4).mono ?_; rintro e w' ⟨rfl, rfl⟩) | (go_at_call 73; refine (most_leaf L.nb _ hc4).mono ?_; rintro e w' ⟨rfl, rfl⟩))
  obtain ⟨W1, hW1⟩ : ∃ W, W = (w'.setCell ⟨L.nb, 1, none⟩ (.bool false)).alloc (.cells #[.pointer none, .bool false, .slice none 0 0, .slice none 0 0, .slice none 0 0] 119) := ⟨_, rfl⟩
  rw [← hW1]
  obtain ⟨rb, hrb⟩ : ∃ rb, rb = w'.heap.size := ⟨_, rfl⟩
  rw [← hrb]
  have hs0 : (w'.setCell ⟨L.nb, 1, none⟩ (.bool false)).heap.size = rb := by rw [hrb]; simp [World.setCell]
  have fr1 : Fr L.own w' W1 := by rw [hW1]; exact ((Fr.refl _ w').setCell ⟨L.nb, 1, none⟩ _ (fun _ => .inl rfl)).alloc _
  have sz1 : W1.heap.size = rb + 1 := by rw [hW1]; simp [World.setCell, hrb]
  have nR1 : NodeAt W1 rb (.slice none 0 0) (.slice none 0 0) (.slice none 0 0) := by rw [hW1, ← hs0]; exact heap_alloc_new _ _
  have hh := unhide H
  have nL1 : NodeAt W1 L.nb (.slice (some ⟨L.kb, 0, none⟩) L.es.length L.kc) (.slice (some ⟨L.vb, 0, none⟩) L.es.length L.vc) (.slice none 0 0) := by
    rw [hW1]; exact hh.node.set1.of_block (Below.heap_alloc _ _ _ (by rw [hs0]; omega))
  have k1 : Row W1 L.kb 23 1 L.es.length L.kc (kvs L.es) := by rw [hW1]; exact (hh.keys.setCell_other ⟨L.nb, 1, none⟩ _ hh.nk.symm).alloc _
  have v1 : Row W1 L.vb 48 1 L.es.length L.vc (vvs L.es) := by rw [hW1]; exact (hh.vals.setCell_other ⟨L.nb, 1, none⟩ _ hh.nv.symm).alloc _
  have d2 := nL1.c2; have d3 := nL1.c3; have d4 := nL1.c4
  have r2 := nR1.c2; have r3 := nR1.c3; have rf2 := nR1.fz 2
  have rlt := nR1.lt
  have FR1 := hide fr1; have SZ1 := hide sz1; have NR1 := hide nR1; have NL1 := hide nL1; have K1 := hide k1; have V1 := hide v1; have RB := hide hrb; have HW1 := hide hW1
  have rne : rb ≠ L.nb := by omega
  have rnk : rb ≠ L.kb := by have := hh.keys.lt; omega
  have rnv : rb ≠ L.vb := by have := hh.vals.lt; omega
  clear hW1 hrb hs0 fr1 sz1 nR1 nL1 k1 v1 hh hc1 hc2 hc3 hc4 hf1
  refine (leaf_yes L.nb _ d4).mono ?_; rintro e w2 ⟨rfl, hw2⟩
  have HW2 := hide hw2
  rw [hw2]
  clear hw2
  go_wp2_with fail
  refine (withRoom95 L.kb (L.es.length / 2) _ (L.es.length - L.es.length / 2) 257 ((kvs L.es).drop (L.es.length / 2)) _ (by rw [List.length_drop, length_kvs]) (by omega) (by omega) (by omega) ((unhide K1).srcDrop _) (One.drop (one_kvs _) _)).mono ?_
  rintro e w3 ⟨rfl, hw3⟩
  rw [hw3]
  have HW3 := hide hw3
  clear hw3
  generalize hcc : rowOf ((kvs L.es).drop (L.es.length / 2)) 257 (.slice none 0 0) = ck
  have HCK := hide hcc
  clear hcc
  obtain ⟨W2, hW2⟩ : ∃ W, W = (W1.setCell ⟨rb, 2, none⟩ (.slice (some ⟨W1.heap.size, 0, none⟩) (L.es.length - L.es.length / 2) 257)).alloc (.cells ck 23) := ⟨_, rfl⟩
  have hsz : (W1.setCell ⟨rb, 2, none⟩ (.slice (some ⟨W1.heap.size, 0, none⟩) (L.es.length - L.es.length / 2) 257)).heap.size = W1.heap.size := by simp [World.setCell]
  have hh := unhide H
  have sz1 := unhide SZ1
  have hrb := unhide RB
  have fr2 : Fr L.own w' W2 := by rw [hW2]; exact ((unhide FR1).setCell ⟨rb, 2, none⟩ _ (fun h => by simp at h; omega)).alloc _
  have sz2 : W2.heap.size = rb + 2 := by rw [hW2]; simp [World.setCell, sz1]
  have nR2 : NodeAt W2 rb (.slice (some ⟨rb + 1, 0, none⟩) (L.es.length - L.es.length / 2) 257) (.slice none 0 0) (.slice none 0 0) := by
    rw [hW2, ← sz1]; exact ((unhide NR1).set2 _).of_block (Below.heap_alloc _ _ _ (by rw [hsz]; exact rlt))
  have nL2 : NodeAt W2 L.nb (.slice (some ⟨L.kb, 0, none⟩) L.es.length L.kc) (.slice (some ⟨L.vb, 0, none⟩) L.es.length L.vc) (.slice none 0 0) := by
    rw [hW2]; exact ((unhide NL1).set_other ⟨rb, 2, none⟩ _ rne.symm).of_block (Below.heap_alloc _ _ _ (by rw [hsz]; exact (unhide NL1).lt))
  have k2 : Row W2 L.kb 23 1 L.es.length L.kc (kvs L.es) := by rw [hW2]; exact ((unhide K1).setCell_other ⟨rb, 2, none⟩ _ rnk.symm).alloc _
  have v2 : Row W2 L.vb 48 1 L.es.length L.vc (vvs L.es) := by rw [hW2]; exact ((unhide V1).setCell_other ⟨rb, 2, none⟩ _ rnv.symm).alloc _
  have rk2 : Row W2 (rb + 1) 23 1 (L.es.length - L.es.length / 2) 257 (kvs (L.es.drop (L.es.length / 2))) := by
    rw [hW2, ← unhide HCK, kvs_drop]; exact Row.madeAt _ _ (by rw [hsz, sz1]) ((kvs L.es).drop (L.es.length / 2)) (L.es.length - L.es.length / 2) 257 _ 23 (by rw [List.length_drop, length_kvs]) (by omega) (by unfold maxLen; omega)
  have e3 : ((W1.setCell ⟨rb, 2, none⟩ (.slice (some ⟨W1.heap.size, 0, none⟩) (L.es.length - L.es.length / 2) 257)).alloc (.cells ck 23)).cell? ⟨L.nb, 3, none⟩ = some (.slice (some ⟨L.vb, 0, none⟩) L.es.length L.vc) := by rw [← hW2]; exact nL2.c3
  clear sz1 hrb hh hsz
  have HW2' := hide hW2; have FR2 := hide fr2; have SZ2 := hide sz2; have NR2 := hide nR2; have NL2 := hide nL2; have K2 := hide k2; have V2 := hide v2; have RK2 := hide rk2
  clear hW2 fr2 sz2 nR2 nL2 k2 v2 rk2
  go_wp2_with fail
  rw [← unhide HW2']
  clear e3 d2 d3 d4 r2 r3 rf2 rlt
  refine (withRoom109 L.vb (L.es.length / 2) _ (L.es.length - L.es.length / 2) 257 ((vvs L.es).drop (L.es.length / 2)) _ (by rw [List.length_drop, length_vvs]) (by omega) (by omega) (by omega) ((unhide V2).srcDrop _) (One.drop (one_vvs _) _)).mono ?_
  rintro e w4 ⟨rfl, hw4⟩
  rw [hw4]
  have HW4 := hide hw4
  clear hw4
  generalize hcc : rowOf ((vvs L.es).drop (L.es.length / 2)) 257 (.pointer none) = cv
  have HCV := hide hcc
  clear hcc
  obtain ⟨W3, hW3⟩ : ∃ W, W = (W2.setCell ⟨rb, 3, none⟩ (.slice (some ⟨W2.heap.size, 0, none⟩) (L.es.length - L.es.length / 2) 257)).alloc (.cells cv 48) := ⟨_, rfl⟩
  have hsz : (W2.setCell ⟨rb, 3, none⟩ (.slice (some ⟨W2.heap.size, 0, none⟩) (L.es.length - L.es.length / 2) 257)).heap.size = W2.heap.size := by simp [World.setCell]
  have sz2 := unhide SZ2
  have hrb := unhide RB
  have fr3 : Fr L.own w' W3 := by rw [hW3]; exact ((unhide FR2).setCell ⟨rb, 3, none⟩ _ (fun h => by simp at h; omega)).alloc _
  have sz3 : W3.heap.size = rb + 3 := by rw [hW3]; simp [World.setCell, sz2]
  have nR3 : NodeAt W3 rb (.slice (some ⟨rb + 1, 0, none⟩) (L.es.length - L.es.length / 2) 257) (.slice (some ⟨rb + 2, 0, none⟩) (L.es.length - L.es.length / 2) 257) (.slice none 0 0) := by
    rw [hW3, ← sz2]; exact ((unhide NR2).set3 _).of_block (Below.heap_alloc _ _ _ (by rw [hsz]; exact (unhide NR2).lt))
  have nL3 : NodeAt W3 L.nb (.slice (some ⟨L.kb, 0, none⟩) L.es.length L.kc) (.slice (some ⟨L.vb, 0, none⟩) L.es.length L.vc) (.slice none 0 0) := by
    rw [hW3]; exact ((unhide NL2).set_other ⟨rb, 3, none⟩ _ rne.symm).of_block (Below.heap_alloc _ _ _ (by rw [hsz]; exact (unhide NL2).lt))
  have k3 : Row W3 L.kb 23 1 L.es.length L.kc (kvs L.es) := by rw [hW3]; exact ((unhide K2).setCell_other ⟨rb, 3, none⟩ _ rnk.symm).alloc _
  have v3 : Row W3 L.vb 48 1 L.es.length L.vc (vvs L.es) := by rw [hW3]; exact ((unhide V2).setCell_other ⟨rb, 3, none⟩ _ rnv.symm).alloc _
  have rk3 : Row W3 (rb + 1) 23 1 (L.es.length - L.es.length / 2) 257 (kvs (L.es.drop (L.es.length / 2))) := by rw [hW3]; exact ((unhide RK2).setCell_other ⟨rb, 3, none⟩ _ (by simp)).alloc _
  have rv3 : Row W3 (rb + 2) 48 1 (L.es.length - L.es.length / 2) 257 (vvs (L.es.drop (L.es.length / 2))) := by
    rw [hW3, ← unhide HCV, vvs_drop]; exact Row.madeAt _ _ (by rw [hsz, sz2]) ((vvs L.es).drop (L.es.length / 2)) (L.es.length - L.es.length / 2) 257 _ 48 (by rw [List.length_drop, length_vvs]) (by omega) (by unfold maxLen; omega)
  clear sz2 hrb hsz
  have q3 := (unhide NR2).c3; have qf3 := (unhide NR2).fz 3; have qlt := (unhide NR2).lt
  have HW3' := hide hW3; have FR3 := hide fr3; have SZ3 := hide sz3; have NR3 := hide nR3; have NL3 := hide nL3; have K3 := hide k3; have V3 := hide v3; have RK3 := hide rk3; have RV3 := hide rv3
  clear hW3 fr3 sz3 nR3 nL3 k3 v3 rk3 rv3 FR1 FR2 SZ1 SZ2 NR1 NR2 NL1 NL2 K1 K2 V1 V2 RK2 HW1 HW2 HW2' HW3 HW4 HCK HCV
  go_wp2_with fail
  rw [← unhide HW3']
  clear q3 qf3 qlt HW3'
  have d2 := (unhide NL3).c2; have d3 := (unhide NL3).c3; have df2 := (unhide NL3).fz 2; have df3 := (unhide NL3).fz 3; have dlt := (unhide NL3).lt
  have r2 := (unhide NR3).c2
  have hkl : Hid (((kvs L.es).take (L.es.length / 2)).length = L.es.length / 2) := hide (by rw [List.length_take, length_kvs]; omega)
  have hvl : Hid (((vvs L.es).take (L.es.length / 2)).length = L.es.length / 2) := hide (by rw [List.length_take, length_vvs]; omega)
  have hn2 : Hid (L.es.length / 2 ≤ 100000) := hide (by omega)
  have S1 := hide ((unhide K3).srcTake (L.es.length / 2))
  have S2 := hide ((unhide V3).alloc (.cells (rowOf ((kvs L.es).take (L.es.length / 2)) (L.es.length / 2 + 1) (.slice none 0 0)) 23))
  have O1 := hide (One.take (one_kvs L.es) (L.es.length / 2))
  have O2 := hide (One.take (one_vvs L.es) (L.es.length / 2))
  obtain ⟨W4, hW4⟩ : ∃ W, W = (((W3.setCell ⟨L.nb, 2, none⟩ (.slice (some ⟨W3.heap.size, 0, none⟩) (L.es.length / 2) (L.es.length / 2 + 1))).setCell ⟨L.nb, 3, none⟩ (.slice (some ⟨W3.heap.size + 1, 0, none⟩) (L.es.length / 2) (L.es.length / 2 + 1))).alloc
      (.cells (rowOf ((kvs L.es).take (L.es.length / 2)) (L.es.length / 2 + 1) (.slice none 0 0)) 23)).alloc (.cells (rowOf ((vvs L.es).take (L.es.length / 2)) (L.es.length / 2 + 1) (.pointer none)) 48) := ⟨_, rfl⟩
  have hh := unhide H
  have sz3 := unhide SZ3
  have hrb := unhide RB
  have hsz : ((W3.setCell ⟨L.nb, 2, none⟩ (.slice (some ⟨W3.heap.size, 0, none⟩) (L.es.length / 2) (L.es.length / 2 + 1))).setCell ⟨L.nb, 3, none⟩ (.slice (some ⟨W3.heap.size + 1, 0, none⟩) (L.es.length / 2) (L.es.length / 2 + 1))).heap.size = W3.heap.size := by simp [World.setCell]
  have hlk := hh.keys.lt; have hlv := hh.vals.lt
  have fr4 : Fr L.own w' W4 := by rw [hW4]; exact ((((unhide FR3).setCell ⟨L.nb, 2, none⟩ _ (fun _ => .inl rfl)).setCell ⟨L.nb, 3, none⟩ _ (fun _ => .inl rfl)).alloc _).alloc _
  have nR4 : NodeAt W4 rb (.slice (some ⟨rb + 1, 0, none⟩) (L.es.length - L.es.length / 2) 257) (.slice (some ⟨rb + 2, 0, none⟩) (L.es.length - L.es.length / 2) 257) (.slice none 0 0) := by
    rw [hW4]; exact ((((unhide NR3).set_other ⟨L.nb, 2, none⟩ _ rne).set_other ⟨L.nb, 3, none⟩ _ rne).alloc _).alloc _
  have nL4 : NodeAt W4 L.nb (.slice (some ⟨rb + 3, 0, none⟩) (L.es.length / 2) (L.es.length / 2 + 1)) (.slice (some ⟨rb + 4, 0, none⟩) (L.es.length / 2) (L.es.length / 2 + 1)) (.slice none 0 0) := by
    rw [hW4, sz3]; exact ((((unhide NL3).set2 _).set3 _).alloc _).alloc _
  have rk4 : Row W4 (rb + 1) 23 1 (L.es.length - L.es.length / 2) 257 (kvs (L.es.drop (L.es.length / 2))) := by
    rw [hW4]; exact ((((unhide RK3).setCell_other ⟨L.nb, 2, none⟩ _ (by simp; omega)).setCell_other ⟨L.nb, 3, none⟩ _ (by simp; omega)).alloc _).alloc _
  have rv4 : Row W4 (rb + 2) 48 1 (L.es.length - L.es.length / 2) 257 (vvs (L.es.drop (L.es.length / 2))) := by
    rw [hW4]; exact ((((unhide RV3).setCell_other ⟨L.nb, 2, none⟩ _ (by simp; omega)).setCell_other ⟨L.nb, 3, none⟩ _ (by simp; omega)).alloc _).alloc _
  have lk4 : Row W4 (rb + 3) 23 1 (L.es.length / 2) (L.es.length / 2 + 1) (kvs (L.es.take (L.es.length / 2))) := by
    rw [hW4, kvs_take]; exact (Row.madeAt _ _ (by rw [hsz, sz3]) _ _ _ _ 23 (unhide hkl) (by omega) (by unfold maxLen; omega)).alloc _
  have lv4 : Row W4 (rb + 4) 48 1 (L.es.length / 2) (L.es.length / 2 + 1) (vvs (L.es.take (L.es.length / 2))) := by
    rw [hW4, vvs_take]; exact Row.madeAt _ _ (by simp [World.setCell, sz3]) _ _ _ _ 48 (unhide hvl) (by omega) (by unfold maxLen; omega)
  obtain ⟨k0, hk0⟩ : ∃ k0, k0 = (L.es[L.es.length / 2]'(by omega)).1 := ⟨_, rfl⟩
  have t2 := nR4.c2
  have t0 : W4.cell? ⟨rb + 1, 0, none⟩ = some (.slice k0.a k0.n k0.c) := by
    rw [hk0]; refine rk4.cell? ?_
    rw [kvs_get _ _ (by rw [List.length_drop]; omega), List.getElem_drop]; rfl
  have hpos : (0 : Int) < ((L.es.length - L.es.length / 2 : Nat) : Int) := by omega
  have fin : Hid (∃ L1 R : Lf, R.nb = rb ∧ L1.At W4 ∧ R.At W4 ∧ L1.nb = L.nb ∧ L1.es = L.es.take (L.es.length / 2) ∧ R.es = L.es.drop (L.es.length / 2) ∧
      Fr L.own w' W4 ∧ (∀ k, L1.own k → L.own k ∨ w'.heap.size ≤ k) ∧ (∀ k, R.own k → w'.heap.size ≤ k) ∧ (∀ k, L1.own k → R.own k → False)) := by
    have el : (L.es.take (L.es.length / 2)).length = L.es.length / 2 := by rw [List.length_take]; omega
    have er : (L.es.drop (L.es.length / 2)).length = L.es.length - L.es.length / 2 := by rw [List.length_drop]
    refine hide ⟨⟨L.nb, rb + 3, L.es.length / 2 + 1, rb + 4, L.es.length / 2 + 1, L.es.take (L.es.length / 2)⟩, ⟨rb, rb + 1, 257, rb + 2, 257, L.es.drop (L.es.length / 2)⟩, rfl, ?_, ?_, rfl, rfl, rfl, fr4, ?_, ?_, ?_⟩
    · exact ⟨by show NodeAt W4 L.nb (.slice _ (L.es.take (L.es.length / 2)).length _) (.slice _ (L.es.take (L.es.length / 2)).length _) _; rw [el]; exact nL4, by show Row W4 _ 23 1 (L.es.take (L.es.length / 2)).length _ _; rw [el]; exact lk4, by show Row W4 _ 48 1 (L.es.take (L.es.length / 2)).length _ _; rw [el]; exact lv4, by simp; omega, by simp; omega, by simp⟩
    · exact ⟨by show NodeAt W4 rb (.slice _ (L.es.drop (L.es.length / 2)).length _) (.slice _ (L.es.drop (L.es.length / 2)).length _) _; rw [er]; exact nR4, by show Row W4 _ 23 1 (L.es.drop (L.es.length / 2)).length _ _; rw [er]; exact rk4, by show Row W4 _ 48 1 (L.es.drop (L.es.length / 2)).length _ _; rw [er]; exact rv4, by simp, by simp, by simp⟩
    · rintro k (rfl | rfl | rfl)
      · exact .inl (.inl rfl)
      · exact .inr (by simp; omega)
      · exact .inr (by simp; omega)
    · rintro k (rfl | rfl | rfl) <;> first | omega | (dsimp only; omega)
    · rintro k (rfl | rfl | rfl) (h | h | h) <;> simp at h <;> omega
  have HK0 := hide hk0
  have HW4 := hide hW4
  clear hW4 hh sz3 hrb hsz hlk hlv fr4 nR4 nL4 rk4 rv4 lk4 lv4 hk0
  have hs1 : (0 : Int) ≤ (L.es.length : Int) / 2 := by omega
  have hs2 : (L.es.length : Int) / 2 ≤ (L.kc : Int) := by omega
  have hs3 : (L.es.length : Int) / 2 ≤ (L.vc : Int) := by omega
  go_region_with (first
    | (go_at_call_of 86 (L.kb); refine (clone86 L.kb 0 L.kc (L.es.length / 2) ((kvs L.es).take (L.es.length / 2)) _ (unhide hkl) (unhide hn2) ?_ (unhide O1)).mono ?_; exact unhide S1; rintro e w5 ⟨rfl, rfl⟩)
    | (go_at_call_of 102 (L.vb); refine (clone102 L.vb 0 L.vc (L.es.length / 2) ((vvs L.es).take (L.es.length / 2)) _ (unhide hvl) (unhide hn2) ?_ (unhide O2)).mono ?_; exact (unhide S2).srcTake _; rintro e w5 ⟨rfl, rfl⟩))
  all_goals
    rw [← unhide HW4]
    clear d2 d3 df2 df3 dlt r2 S1 S2 O1 O2 hkl hvl hn2 K3 V3 NR3 NL3 RK3 RV3 FR3 SZ3
    go_wp2_with fail
    go_quiet (fail)
    go_wp2_with fail
    go_ret2
    obtain ⟨L1, R, hRb, g1, g2, g3, g4, g5, g6, g7, g8, g9⟩ := unhide fin
    refine ⟨L1, R, ?_, g1.of_heap rfl, g2.of_heap rfl, g3, g4, g5, ?_, g7, g8, g9⟩
    · rw [hRb, ← unhide HK0]; rfl
    · exact g6.drew.drewN _

end Go.Proofs.Qxb6615626a.BV
