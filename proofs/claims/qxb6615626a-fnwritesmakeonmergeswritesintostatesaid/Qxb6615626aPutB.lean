/-
  A leaf in memory; put (V by the namespace).
-/
import Derived.Test.Qxb6615626aSeekB
import Derived.Test.Qxb6615626aIns
import Derived.RegionTactic
namespace Go.Proofs.Qxb6615626a.BV
open Go.RowKit
set_option linter.unusedVariables false

/-- a node's block: no owner, keys its own -/
def NodeAt (w : World) (nb : Nat) (kv vv cv : Value) : Prop := w.heap[nb]? = some (.cells #[.pointer none, .bool false, kv, vv, cv] 119 (0, 0))

section
variable {w w' : World} {nb : Nat} {kv vv cv : Value}
theorem NodeAt.c0 (h : NodeAt w nb kv vv cv) : w.cell? ⟨nb, 0, none⟩ = some (.pointer none) := by unfold NodeAt at h; simp [World.cell?, h]
theorem NodeAt.c1 (h : NodeAt w nb kv vv cv) : w.cell? ⟨nb, 1, none⟩ = some (.bool false) := by unfold NodeAt at h; simp [World.cell?, h]
theorem NodeAt.c2 (h : NodeAt w nb kv vv cv) : w.cell? ⟨nb, 2, none⟩ = some kv := by unfold NodeAt at h; simp [World.cell?, h]
theorem NodeAt.c3 (h : NodeAt w nb kv vv cv) : w.cell? ⟨nb, 3, none⟩ = some vv := by unfold NodeAt at h; simp [World.cell?, h]
theorem NodeAt.c4 (h : NodeAt w nb kv vv cv) : w.cell? ⟨nb, 4, none⟩ = some cv := by unfold NodeAt at h; simp [World.cell?, h]
theorem NodeAt.fz (h : NodeAt w nb kv vv cv) (j : Nat) : w.frozen? ⟨nb, j, none⟩ = false := by unfold NodeAt at h; simp [World.frozen?, h]
theorem NodeAt.lt (h : NodeAt w nb kv vv cv) : nb < w.heap.size := (Array.getElem?_eq_some_iff.1 h).1
theorem NodeAt.of_block (h : NodeAt w nb kv vv cv) (hb : w'.heap[nb]? = w.heap[nb]?) : NodeAt w' nb kv vv cv := by unfold NodeAt; rw [hb]; exact h
theorem NodeAt.fr {F : Nat → Prop} (h : NodeAt w nb kv vv cv) (hf : Fr F w w') (hn : ¬ F nb) : NodeAt w' nb kv vv cv := h.of_block (hf.block nb h.lt hn)
theorem NodeAt.alloc (h : NodeAt w nb kv vv cv) (o : Obj) : NodeAt (w.alloc o) nb kv vv cv := h.of_block (Below.heap_alloc _ _ _ h.lt)
theorem NodeAt.set1 (h : NodeAt w nb kv vv cv) : NodeAt (w.setCell ⟨nb, 1, none⟩ (.bool false)) nb kv vv cv := by unfold NodeAt at h ⊢; simp [World.setCell, Array.getElem?_modify, h]
theorem NodeAt.set2 (h : NodeAt w nb kv vv cv) (u : Value) : NodeAt (w.setCell ⟨nb, 2, none⟩ u) nb u vv cv := by unfold NodeAt at h ⊢; simp [World.setCell, Array.getElem?_modify, h]
theorem NodeAt.set3 (h : NodeAt w nb kv vv cv) (u : Value) : NodeAt (w.setCell ⟨nb, 3, none⟩ u) nb kv u cv := by unfold NodeAt at h ⊢; simp [World.setCell, Array.getElem?_modify, h]
theorem NodeAt.set4 (h : NodeAt w nb kv vv cv) (u : Value) : NodeAt (w.setCell ⟨nb, 4, none⟩ u) nb kv vv u := by unfold NodeAt at h ⊢; simp [World.setCell, Array.getElem?_modify, h]
theorem NodeAt.set_other (h : NodeAt w nb kv vv cv) (p : Addr) (u : Value) (hp : nb ≠ p.block) : NodeAt (w.setCell p u) nb kv vv cv := h.of_block (Below.heap_setCell _ _ _ _ hp)
end

/-- a leaf: its node's block, its keys' and values' blocks with their capacities, its entries -/
structure Lf where
  nb : Nat
  kb : Nat
  kc : Nat
  vb : Nat
  vc : Nat
  es : List (Sl × Option Addr)

def Lf.own (L : Lf) (k : Nat) : Prop := k = L.nb ∨ k = L.kb ∨ k = L.vb
def kvs (es : List (Sl × Option Addr)) : List Value := es.map fun e => e.1.v
def vvs (es : List (Sl × Option Addr)) : List Value := es.map fun e => Value.pointer e.2
def kss (es : List (Sl × Option Addr)) : List Sl := es.map fun e => e.1

theorem one_kvs (es : List (Sl × Option Addr)) : One (kvs es) := by intro v hv; unfold kvs at hv; obtain ⟨e, _, rfl⟩ := List.mem_map.1 hv; rfl
theorem one_vvs (es : List (Sl × Option Addr)) : One (vvs es) := by intro v hv; unfold vvs at hv; obtain ⟨e, _, rfl⟩ := List.mem_map.1 hv; rfl
theorem length_kvs (es : List (Sl × Option Addr)) : (kvs es).length = es.length := by unfold kvs; simp
theorem length_vvs (es : List (Sl × Option Addr)) : (vvs es).length = es.length := by unfold vvs; simp
theorem length_kss (es : List (Sl × Option Addr)) : (kss es).length = es.length := by unfold kss; simp

theorem kvs_drop (es : List (Sl × Option Addr)) (m : Nat) : kvs (es.drop m) = (kvs es).drop m := by unfold kvs; rw [List.map_drop]
theorem vvs_drop (es : List (Sl × Option Addr)) (m : Nat) : vvs (es.drop m) = (vvs es).drop m := by unfold vvs; rw [List.map_drop]
theorem kvs_take (es : List (Sl × Option Addr)) (m : Nat) : kvs (es.take m) = (kvs es).take m := by unfold kvs; rw [List.map_take]
theorem vvs_take (es : List (Sl × Option Addr)) (m : Nat) : vvs (es.take m) = (vvs es).take m := by unfold vvs; rw [List.map_take]
theorem kvs_get (es : List (Sl × Option Addr)) (i : Nat) (h : i < es.length) : (kvs es)[i]? = some es[i].1.v := by unfold kvs; rw [List.getElem?_map, List.getElem?_eq_getElem h]; rfl
theorem vvs_get (es : List (Sl × Option Addr)) (i : Nat) (h : i < es.length) : (vvs es)[i]? = some (Value.pointer es[i].2) := by unfold vvs; rw [List.getElem?_map, List.getElem?_eq_getElem h]; rfl
theorem kss_get (es : List (Sl × Option Addr)) (i : Nat) (h : i < es.length) : (kss es)[i]'(by rw [length_kss]; exact h) = es[i].1 := by unfold kss; rw [List.getElem_map]
theorem kvs_set (es : List (Sl × Option Addr)) (i : Nat) (h : i < es.length) (x : Option Addr) : kvs (es.set i (es[i].1, x)) = kvs es := by
  unfold kvs; rw [List.map_set]
  have : (List.map (fun e : Sl × Option Addr => e.1.v) es)[i]? = some es[i].1.v := by rw [List.getElem?_map, List.getElem?_eq_getElem h]; rfl
  exact set_same _ _ _ this
theorem kss_set (es : List (Sl × Option Addr)) (i : Nat) (h : i < es.length) (x : Option Addr) : kss (es.set i (es[i].1, x)) = kss es := by
  unfold kss; rw [List.map_set]
  have : (List.map (fun e : Sl × Option Addr => e.1) es)[i]? = some es[i].1 := by rw [List.getElem?_map, List.getElem?_eq_getElem h]; rfl
  exact set_same _ _ _ this

structure Lf.At (w : World) (L : Lf) : Prop where
  node : NodeAt w L.nb (.slice (some ⟨L.kb, 0, none⟩) L.es.length L.kc) (.slice (some ⟨L.vb, 0, none⟩) L.es.length L.vc) (.slice none 0 0)
  keys : Row w L.kb 23 1 L.es.length L.kc (kvs L.es)
  vals : Row w L.vb 48 1 L.es.length L.vc (vvs L.es)
  nk : L.nb ≠ L.kb
  nv : L.nb ≠ L.vb
  kv : L.kb ≠ L.vb

theorem Lf.At.fr {F : Nat → Prop} {w w' : World} {L : Lf} (h : L.At w) (hf : Fr F w w') (hn : ∀ k, L.own k → ¬ F k) : L.At w' :=
  ⟨h.node.fr hf (hn _ (.inl rfl)), h.keys.fr hf (hn _ (.inr (.inl rfl))), h.vals.fr hf (hn _ (.inr (.inr rfl))), h.nk, h.nv, h.kv⟩

theorem Lf.At.of_heap {w w' : World} {L : Lf} (h : L.At w) (e : w'.heap = w.heap) : L.At w' :=
  ⟨h.node.of_block (by rw [e]), h.keys.of_block (by rw [e]), h.vals.of_block (by rw [e]), h.nk, h.nv, h.kv⟩

theorem Lf.At.lt {w : World} {L : Lf} (h : L.At w) : ∀ k, L.own k → k < w.heap.size := by
  rintro k (rfl | rfl | rfl)
  · exact h.node.lt
  · exact h.keys.lt
  · exact h.vals.lt

/-- the cells of the keys, one by one -/
theorem Lf.At.key {w : World} {L : Lf} (h : L.At w) : ∀ i (hi : i < (kss L.es).length), w.cell? ⟨L.kb, i, none⟩ = some (kss L.es)[i].v := by
  intro i hi
  rw [length_kss] at hi
  rw [kss_get _ _ hi]
  exact h.keys.cell? (kvs_get _ _ hi)

set_option maxHeartbeats 1000000 in
theorem put_found (L : Lf) (i : Nat) (key : Sl) (x : Option Addr) (w : World) (h : L.At w) (hlen : L.es.length ≤ 100000) (hi : i < L.es.length) :
    Calls Try.prog 101 #[.pointer (some ⟨L.nb, 0, none⟩), .int .i64 i, .bool true, key.v, Value.pointer x] w fun e w' => (∃ v, e = .returned v) ∧
      Lf.At w' { L with es := L.es.set i (L.es[i].1, x) } ∧ Fr L.own w w' := by
  have hc3 := h.node.c3
  have hcell : w.cell? ⟨L.vb, i, none⟩ = some (Value.pointer L.es[i].2) := h.vals.cell? (vvs_get _ _ hi)
  have hfz := h.vals.frozen i
  have H := hide h
  clear h
  generalize hx : L.es[i].2 = x0 at hcell
  clear hx
  go_enter Try.func101, Try.ntmps101
  go_wp2
  go_region
  go_wp2
  go_ret
  refine ⟨⟨_, rfl⟩, ?_, ?_⟩
  · have h := unhide H
    refine ⟨?_, ?_, ?_, h.nk, h.nv, h.kv⟩
    · have := h.node.set_other ⟨L.vb, i, none⟩ (Value.pointer x) h.nv
      simp only [List.length_set]
      exact this
    · have := h.keys.setCell_other ⟨L.vb, i, none⟩ (Value.pointer x) h.kv
      simp only [List.length_set]
      rw [kvs_set _ _ hi]; exact this
    · have := h.vals.setCell (j := i) (by rw [length_vvs]; exact hi) (Value.pointer x)
      have e : vvs (L.es.set i (L.es[i].1, x)) = (vvs L.es).set i (Value.pointer x) := by unfold vvs; rw [List.map_set]
      simp only [List.length_set]
      rw [e]; exact this
  · exact (Fr.refl _ w).drew.setCell ⟨L.vb, i, none⟩ _ (fun _ => .inr (.inr rfl))

theorem kvs_ins (es : List (Sl × Option Addr)) (i : Nat) (e : Sl × Option Addr) : kvs (es.take i ++ e :: es.drop i) = (kvs es).take i ++ e.1.v :: (kvs es).drop i := by
  unfold kvs; simp [List.map_take, List.map_drop]
theorem vvs_ins (es : List (Sl × Option Addr)) (i : Nat) (e : Sl × Option Addr) : vvs (es.take i ++ e :: es.drop i) = (vvs es).take i ++ Value.pointer e.2 :: (vvs es).drop i := by
  unfold vvs; simp [List.map_take, List.map_drop]
theorem len_ins {α : Type} (es : List α) (i : Nat) (hi : i ≤ es.length) (e : α) : (es.take i ++ e :: es.drop i).length = es.length + 1 := by
  simp; omega

set_option maxHeartbeats 1000000 in
theorem put_new (L : Lf) (i : Nat) (key : Sl) (x : Option Addr) (w : World) (h : L.At w) (hlen : L.es.length ≤ 1000) (hi : i ≤ L.es.length) :
    Calls Try.prog 101 #[.pointer (some ⟨L.nb, 0, none⟩), .int .i64 i, .bool false, key.v, Value.pointer x] w fun e w' => (∃ v, e = .returned v) ∧
      ∃ L' : Lf, L'.At w' ∧ L'.nb = L.nb ∧ L'.es = L.es.take i ++ (key, x) :: L.es.drop i ∧ Fr L.own w w' ∧ (∀ k, L'.own k → L.own k ∨ w.heap.size ≤ k) := by
  have hc1 := h.node.c1
  have hc2 := h.node.c2
  have hkl := length_kvs L.es
  have hvl := length_vvs L.es
  have H := hide h
  clear h
  go_enter Try.func101, Try.ntmps101
  go_wp2_with (go_at_call 107; refine (ownKeys_any L.nb _ hc1).mono ?_; rintro e w' ⟨rfl, rfl⟩)
  refine (insert93 L.kb L.kc i L.es.length (kvs L.es) key _ hkl (by omega) hi (by exact (unhide H).keys) (one_kvs _)).mono ?_
  rintro e w1 ⟨gk, ck, rfl, hrow1, hfr1, hg1⟩
  have hN1 : NodeAt w1 L.nb _ _ _ := (unhide H).node.fr hfr1 (unhide H).nk
  have hV1 : Row w1 L.vb _ _ _ _ _ := (unhide H).vals.fr hfr1 (fun e => (unhide H).kv e.symm)
  have hd2 := hN1.c2
  have hd3 := hN1.c3
  have hdf := hN1.fz 2
  have HR1 := hide hrow1; have HF1 := hide hfr1; have HG1 := hide hg1; have HN1 := hide hN1; have HV1 := hide hV1
  clear hrow1 hfr1 hg1 hN1 hV1 hc1 hc2
  go_wp2_with fail
  refine (insert118 L.vb L.vc i L.es.length (vvs L.es) x _ hvl (by omega) hi (by exact (unhide HV1).setCell_other ⟨L.nb, 2, none⟩ _ (unhide H).nv.symm) (one_vvs _)).mono ?_
  rintro e w2 ⟨gv, cv, rfl, hrow2, hfr2, hg2⟩
  have hN2 : NodeAt w2 L.nb _ _ _ := ((unhide HN1).set2 (.slice (some ⟨gk, 0, none⟩) (L.es.length + 1) ck)).fr hfr2 (unhide H).nv
  have hd3' := hN2.c3
  have hdf' := hN2.fz 3
  have HR2 := hide hrow2; have HF2 := hide hfr2; have HG2 := hide hg2; have HN2 := hide hN2
  clear hrow2 hfr2 hg2 hN2 hd2 hd3 hdf
  go_wp2_with fail
  go_ret
  have hh := unhide H
  have hs1 := (unhide HF1).size
  have hs2 := (unhide HF2).size
  have hs2' : (w1.setCell ⟨L.nb, 2, none⟩ (.slice (some ⟨gk, 0, none⟩) (L.es.length + 1) ck)).heap.size = w1.heap.size := by simp [World.setCell]
  have hln := hh.node.lt
  have hlk := hh.keys.lt
  have hlv := hh.vals.lt
  have hgk := unhide HG1
  have hgv := unhide HG2
  have hrk := (unhide HR1).lt
  have hnk := hh.nk; have hnv := hh.nv; have hkv := hh.kv
  have gk_nb : gk ≠ L.nb := by rcases hgk with e | e <;> omega
  have gk_vb : gk ≠ L.vb := by rcases hgk with e | e <;> omega
  have gv_nb : gv ≠ L.nb := by rcases hgv with e | e <;> omega
  have gk_gv : gk ≠ gv := by rcases hgv with e | e <;> omega
  refine ⟨⟨_, rfl⟩, ⟨L.nb, gk, ck, gv, cv, L.es.take i ++ (key, x) :: L.es.drop i⟩, ⟨?_, ?_, ?_, gk_nb.symm, gv_nb.symm, gk_gv⟩, rfl, rfl, ?_, ?_⟩
  · show NodeAt _ L.nb (.slice _ (L.es.take i ++ (key, x) :: L.es.drop i).length _) (.slice _ (L.es.take i ++ (key, x) :: L.es.drop i).length _) _
    rw [len_ins _ _ hi]
    exact (unhide HN2).set3 _
  · show Row _ gk 23 1 (L.es.take i ++ (key, x) :: L.es.drop i).length ck (kvs (L.es.take i ++ (key, x) :: L.es.drop i))
    rw [len_ins _ _ hi, kvs_ins]
    exact (((unhide HR1).setCell_other ⟨L.nb, 2, none⟩ _ gk_nb).fr (unhide HF2) gk_vb).setCell_other ⟨L.nb, 3, none⟩ _ gk_nb
  · show Row _ gv 48 1 (L.es.take i ++ (key, x) :: L.es.drop i).length cv (vvs (L.es.take i ++ (key, x) :: L.es.drop i))
    rw [len_ins _ _ hi, vvs_ins]
    exact (unhide HR2).setCell_other ⟨L.nb, 3, none⟩ _ gv_nb
  · exact ((((unhide HF1).mono (fun k _ e => .inr (.inl e))).setCell ⟨L.nb, 2, none⟩ _ (fun _ => .inl rfl)).trans (unhide HF2) (fun k _ e => .inr (.inr e))).setCell ⟨L.nb, 3, none⟩ _ (fun _ => .inl rfl)
  · rintro k (rfl | rfl | rfl)
    · exact .inl (.inl rfl)
    · exact hgk.imp (fun e => .inr (.inl e)) id
    · exact hgv.imp (fun e => .inr (.inr e)) (fun e => by omega)

end Go.Proofs.Qxb6615626a.BV
