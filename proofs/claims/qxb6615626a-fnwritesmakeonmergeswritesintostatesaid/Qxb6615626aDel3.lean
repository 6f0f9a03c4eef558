/-
  delete at a leaf; refill (V = *Version).
-/
import Derived.Test.Qxb6615626aDel2
import Derived.Deep.DeepCutAuto
namespace Go.Proofs.Qxb6615626a.BV
open Go.RowKit
set_option linter.unusedVariables false

theorem removeAtF113 (g cap i n : Nat) (xs : List Value) (w : World) (hxn : xs.length = n) (hn : n ≤ 100000) (hi : i < n) (hrow : Row w g 23 1 n cap xs) (h1 : One xs) :
    Calls Try.prog 113 #[.slice (some ⟨g, 0, none⟩) n cap, .int .i64 i] w fun e w' => e = .returned (.slice (some ⟨g, 0, none⟩) (n - 1) cap) ∧
      Row w' g 23 1 (n - 1) cap (xs.take i ++ xs.drop (i + 1)) ∧ Fr (· = g) w w' := by
  subst hxn; exact removeAt113 g cap i xs w hn hi hrow h1

theorem removeAtF114 (g cap i n : Nat) (xs : List Value) (w : World) (hxn : xs.length = n) (hn : n ≤ 100000) (hi : i < n) (hrow : Row w g 48 1 n cap xs) (h1 : One xs) :
    Calls Try.prog 114 #[.slice (some ⟨g, 0, none⟩) n cap, .int .i64 i] w fun e w' => e = .returned (.slice (some ⟨g, 0, none⟩) (n - 1) cap) ∧
      Row w' g 48 1 (n - 1) cap (xs.take i ++ xs.drop (i + 1)) ∧ Fr (· = g) w w' := by
  subst hxn; exact removeAt114 g cap i xs w hn hi hrow h1

theorem removeAtF120 (g cap i n : Nat) (xs : List Value) (w : World) (hxn : xs.length = n) (hn : n ≤ 100000) (hi : i < n) (hrow : Row w g 78 1 n cap xs) (h1 : One xs) :
    Calls Try.prog 120 #[.slice (some ⟨g, 0, none⟩) n cap, .int .i64 i] w fun e w' => e = .returned (.slice (some ⟨g, 0, none⟩) (n - 1) cap) ∧
      Row w' g 78 1 (n - 1) cap (xs.take i ++ xs.drop (i + 1)) ∧ Fr (· = g) w w' := by
  subst hxn; exact removeAt120 g cap i xs w hn hi hrow h1

theorem kvs_rem (es : List (Sl × Option Addr)) (i : Nat) : kvs (es.take i ++ es.drop (i + 1)) = (kvs es).take i ++ (kvs es).drop (i + 1) := by unfold kvs; simp [List.map_take, List.map_drop]
theorem vvs_rem (es : List (Sl × Option Addr)) (i : Nat) : vvs (es.take i ++ es.drop (i + 1)) = (vvs es).take i ++ (vvs es).drop (i + 1) := by unfold vvs; simp [List.map_take, List.map_drop]

def DelLeafPost (f : Sl → List UInt8) (L : Lf) (key : Sl) (w : World) (e : Ending) (w' : World) : Prop :=
  e = .returned (.tuple #[]) ∧ Lf.At w' { L with es := del f (f key) L.es } ∧ Fr L.own w w'

set_option maxRecDepth 20000 in
set_option maxHeartbeats 2000000 in
theorem delete_leaf (f : Sl → List UInt8) (L : Lf) (eb : Nat) (key : Sl) (w : World) (h : L.At w) (hlen : L.es.length ≤ 256) (hf : ∀ e, e ∈ L.es → Byt w e.1 (f e.1)) (hk : Byt w key (f key)) (ha : AscE f L.es) (hb : fnd f (kss L.es) (f key) = true) :
    Calls Try.prog 80 #[.pointer (some ⟨eb, 0, none⟩), .pointer (some ⟨L.nb, 0, none⟩), .slice key.a key.n key.c] w (DelLeafPost f L key w) := by
  have HFI := hide (find_is L.nb L.kb L.kc (kss L.es) f key w (by rw [length_kss]; omega) (by rw [length_kss]; exact h.node.c2) h.key (fun s hs => by obtain ⟨e, he, rfl⟩ := List.mem_map.1 hs; exact hf e he) hk ha.keys)
  have hlt := fnd_lt hb
  rw [length_kss] at hlt
  have hfe : f (L.es[lb f (kss L.es) (f key)]'hlt).1 = f key := by
    obtain ⟨_, h2⟩ := (found_iff key L.es (lb f (kss L.es) (f key)) (by omega)).1 hb
    exact h2
  have hdel := del_found ha _ hlt hfe
  obtain ⟨i, hi⟩ : ∃ i, i = lb f (kss L.es) (f key) := ⟨_, rfl⟩
  rw [← hi] at HFI hdel
  have hlt' : i < L.es.length := by rw [hi]; exact hlt
  rw [hb] at HFI
  have d1 := h.node.c1; have d2 := h.node.c2; have d4 := h.node.c4
  have HL := hide h; have HDEL := hide hdel
  clear h hf hk ha hb hlt hfe hi hdel
  go_enter Try.func80, Try.ntmps80
  go_wp2_with (go_at_call 81; refine (leaf_yes L.nb _ d4).mono ?_; rintro e w1 ⟨rfl, hw1⟩; rw [hw1]; clear hw1 w1)
  refine (unhide HFI).mono ?_
  rintro e W1 ⟨rfl, n1, hW1⟩
  have F1 : Fr (fun _ => False) w W1 := by rw [hW1]; exact (Fr.refl _ w).drewN n1
  have L1 := (unhide HL).fr F1 (fun _ _ e => e)
  clear d1 d2 d4 hW1
  have d1 := L1.node.c1; have d2 := L1.node.c2
  have HF1 := hide F1; have HL1 := hide L1
  clear F1 L1
  go_wp2_with (go_at_call 107; refine (ownKeys_any L.nb _ d1).mono ?_; rintro e w7 ⟨rfl, hw7⟩; rw [hw7]; clear hw7 w7)
  refine (removeAtF113 L.kb L.kc i L.es.length (kvs L.es) W1 (length_kvs _) (by omega) hlt' (unhide HL1).keys (one_kvs _)).mono ?_
  rintro e W2 ⟨rfl, hR2, hF2⟩
  have N2 := (unhide HL1).node.fr hF2 (unhide HL1).nk
  have V2 := (unhide HL1).vals.fr hF2 (fun e => (unhide HL1).kv e.symm)
  have q2 := N2.c2; have qf2 := N2.fz 2; have q3 := N2.c3
  have HR2 := hide hR2; have HF2 := hide hF2; have HN2 := hide N2; have HV2 := hide V2
  clear d1 d2 hR2 hF2 N2 V2
  go_wp2_with fail
  obtain ⟨W3, hW3⟩ : ∃ W, W = W2.setCell ⟨L.nb, 2, none⟩ (.slice (some ⟨L.kb, 0, none⟩) (L.es.length - 1) L.kc) := ⟨_, rfl⟩
  rw [← hW3]
  have F3 : Fr (fun k => k = L.nb) W2 W3 := by rw [hW3]; exact (Fr.refl _ W2).setCell ⟨L.nb, 2, none⟩ _ (fun _ => rfl)
  have N3 := (unhide HN2).set2 (.slice (some ⟨L.kb, 0, none⟩) (L.es.length - 1) L.kc)
  rw [← hW3] at N3
  have V3 := (unhide HV2).fr F3 (fun e => (unhide HL1).nv e.symm)
  have K3 := (unhide HR2).fr F3 (fun e => (unhide HL1).nk e.symm)
  have HF3 := hide F3; have HN3 := hide N3; have HV3 := hide V3; have HK3 := hide K3
  clear hW3 F3 N3 V3 K3 q2 qf2 q3
  refine (removeAtF114 L.vb L.vc i L.es.length (vvs L.es) W3 (length_vvs _) (by omega) hlt' (unhide HV3) (one_vvs _)).mono ?_
  rintro e W4 ⟨rfl, hR4, hF4⟩
  have N4 := (unhide HN3).fr hF4 (unhide HL1).nv
  have q3 := N4.c3; have qf3 := N4.fz 3
  have K4 := (unhide HK3).fr hF4 (unhide HL1).kv
  have HR4 := hide hR4; have HF4 := hide hF4; have HN4 := hide N4; have HK4 := hide K4
  clear hR4 hF4 N4 K4
  go_wp2_with fail
  go_end0
  have F5 : Fr (fun k => k = L.nb) W4 (W4.setCell ⟨L.nb, 3, none⟩ (.slice (some ⟨L.vb, 0, none⟩) (L.es.length - 1) L.vc)) := (Fr.refl _ W4).setCell ⟨L.nb, 3, none⟩ _ (fun _ => rfl)
  have hl : (del f (f key) L.es).length = L.es.length - 1 := by rw [unhide HDEL]; simp; omega
  refine ⟨rfl, ⟨?_, ?_, ?_, (unhide HL1).nk, (unhide HL1).nv, (unhide HL1).kv⟩, ?_⟩
  · show NodeAt _ L.nb (.slice (some ⟨L.kb, 0, none⟩) (del f (f key) L.es).length L.kc) (.slice (some ⟨L.vb, 0, none⟩) (del f (f key) L.es).length L.vc) (.slice none 0 0)
    rw [hl]; exact (unhide HN4).set3 _
  · show Row _ L.kb 23 1 (del f (f key) L.es).length L.kc (kvs (del f (f key) L.es))
    rw [hl, unhide HDEL, kvs_rem]; exact (unhide HK4).fr F5 (fun e => (unhide HL1).nk e.symm)
  · show Row _ L.vb 48 1 (del f (f key) L.es).length L.vc (vvs (del f (f key) L.es))
    rw [hl, unhide HDEL, vvs_rem]; exact (unhide HR4).fr F5 (fun e => (unhide HL1).nv e.symm)
  · exact (((((unhide HF1).mono (fun _ _ e => e.elim)).trans (unhide HF2) (fun k _ e => .inr (.inl e))).trans (unhide HF3) (fun k _ e => .inl e)).trans (unhide HF4) (fun k _ e => .inr (.inr e))).trans F5 (fun k _ e => .inl e)
end Go.Proofs.Qxb6615626a.BV
