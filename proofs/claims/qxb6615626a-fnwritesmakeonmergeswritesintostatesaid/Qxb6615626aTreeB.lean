/-
  The tree in memory (V by the namespace): at most two levels.
-/
import Derived.Test.Qxb6615626aSplitB
import Derived.Test.Qxb6615626aSort
namespace Go.Proofs.Qxb6615626a.BV
open Go.RowKit
set_option linter.unusedVariables false

/-- an inner node's blocks -/
structure Inn where
  rb : Nat
  kb : Nat
  kc : Nat
  cb : Nat
  cc : Nat

def Inn.own (I : Inn) (k : Nat) : Prop := k = I.rb ∨ k = I.kb ∨ k = I.cb
def nptr (b : Nat) : Value := .pointer (some ⟨b, 0, none⟩)

structure Inn.At (w : World) (I : Inn) (seps : List Sl) (cs : List Nat) : Prop where
  node : NodeAt w I.rb (.slice (some ⟨I.kb, 0, none⟩) seps.length I.kc) (.slice none 0 0) (.slice (some ⟨I.cb, 0, none⟩) cs.length I.cc)
  keys : Row w I.kb 23 1 seps.length I.kc (seps.map Sl.v)
  kids : Row w I.cb 78 1 cs.length I.cc (cs.map nptr)
  rk : I.rb ≠ I.kb
  rc : I.rb ≠ I.cb
  kc : I.kb ≠ I.cb

theorem Inn.At.fr {F : Nat → Prop} {w w' : World} {I : Inn} {ss : List Sl} {cs : List Nat} (h : I.At w ss cs) (hf : Fr F w w') (hn : ∀ k, I.own k → ¬ F k) : I.At w' ss cs :=
  ⟨h.node.fr hf (hn _ (.inl rfl)), h.keys.fr hf (hn _ (.inr (.inl rfl))), h.kids.fr hf (hn _ (.inr (.inr rfl))), h.rk, h.rc, h.kc⟩

theorem Inn.At.lt {w : World} {I : Inn} {ss : List Sl} {cs : List Nat} (h : I.At w ss cs) : ∀ k, I.own k → k < w.heap.size := by
  rintro k (rfl | rfl | rfl)
  · exact h.node.lt
  · exact h.keys.lt
  · exact h.kids.lt

theorem Inn.At.key {w : World} {I : Inn} {ss : List Sl} {cs : List Nat} (h : I.At w ss cs) : ∀ i (hi : i < ss.length), w.cell? ⟨I.kb, i, none⟩ = some ss[i].v := fun i hi =>
  h.keys.cell? (by rw [List.getElem?_map, List.getElem?_eq_getElem hi]; rfl)
theorem Inn.At.kid {w : World} {I : Inn} {ss : List Sl} {cs : List Nat} (h : I.At w ss cs) (i : Nat) (hi : i < cs.length) : w.cell? ⟨I.cb, i, none⟩ = some (.pointer (some ⟨cs[i], 0, none⟩)) :=
  h.kids.cell? (by rw [List.getElem?_map, List.getElem?_eq_getElem hi]; rfl)

theorem one_sv (ss : List Sl) : One (ss.map Sl.v) := by intro v hv; obtain ⟨e, _, rfl⟩ := List.mem_map.1 hv; rfl
theorem one_np (cs : List Nat) : One (cs.map nptr) := by intro v hv; obtain ⟨e, _, rfl⟩ := List.mem_map.1 hv; rfl

/-- the editor's block -/
def EdAt (w : World) (eb : Nat) (root nl : Option Addr) (lo hi : Sl) (p : Nat) : Prop := w.heap[eb]? = some (.cells #[.pointer root, .pointer none, .pointer nl, lo.v, hi.v, .int .i64 p] 82 (0, 0))

section
variable {w w' : World} {eb : Nat} {root nl : Option Addr} {lo hi : Sl} {p : Nat}
theorem EdAt.c0 (h : EdAt w eb root nl lo hi p) : w.cell? ⟨eb, 0, none⟩ = some (.pointer root) := by unfold EdAt at h; simp [World.cell?, h]
theorem EdAt.c1 (h : EdAt w eb root nl lo hi p) : w.cell? ⟨eb, 1, none⟩ = some (.pointer none) := by unfold EdAt at h; simp [World.cell?, h]
theorem EdAt.c2 (h : EdAt w eb root nl lo hi p) : w.cell? ⟨eb, 2, none⟩ = some (.pointer nl) := by unfold EdAt at h; simp [World.cell?, h]
theorem EdAt.c3 (h : EdAt w eb root nl lo hi p) : w.cell? ⟨eb, 3, none⟩ = some lo.v := by unfold EdAt at h; simp [World.cell?, h]
theorem EdAt.c4 (h : EdAt w eb root nl lo hi p) : w.cell? ⟨eb, 4, none⟩ = some hi.v := by unfold EdAt at h; simp [World.cell?, h]
theorem EdAt.c5 (h : EdAt w eb root nl lo hi p) : w.cell? ⟨eb, 5, none⟩ = some (.int .i64 p) := by unfold EdAt at h; simp [World.cell?, h]
theorem EdAt.fz (h : EdAt w eb root nl lo hi p) (j : Nat) : w.frozen? ⟨eb, j, none⟩ = false := by unfold EdAt at h; simp [World.frozen?, h]
theorem EdAt.lt (h : EdAt w eb root nl lo hi p) : eb < w.heap.size := (Array.getElem?_eq_some_iff.1 h).1
theorem EdAt.of_block (h : EdAt w eb root nl lo hi p) (hb : w'.heap[eb]? = w.heap[eb]?) : EdAt w' eb root nl lo hi p := by unfold EdAt; rw [hb]; exact h
theorem EdAt.fr {F : Nat → Prop} (h : EdAt w eb root nl lo hi p) (hf : Fr F w w') (hn : ¬ F eb) : EdAt w' eb root nl lo hi p := h.of_block (hf.block eb h.lt hn)
theorem EdAt.set0 (h : EdAt w eb root nl lo hi p) (r : Option Addr) : EdAt (w.setCell ⟨eb, 0, none⟩ (.pointer r)) eb r nl lo hi p := by unfold EdAt at h ⊢; simp [World.setCell, Array.getElem?_modify, h]
theorem EdAt.set5 (h : EdAt w eb root nl lo hi p) (q : Nat) : EdAt (w.setCell ⟨eb, 5, none⟩ (.int .i64 q)) eb root nl lo hi q := by unfold EdAt at h ⊢; simp [World.setCell, Array.getElem?_modify, h]
theorem EdAt.setNear (h : EdAt w eb root nl lo hi p) (a : Option Addr) (l u : Sl) (q : Nat) :
    EdAt ((((w.setCell ⟨eb, 2, none⟩ (.pointer a)).setCell ⟨eb, 3, none⟩ l.v).setCell ⟨eb, 4, none⟩ u.v).setCell ⟨eb, 5, none⟩ (.int .i64 q)) eb root a l u q := by
  unfold EdAt at h ⊢; simp [World.setCell, Array.getElem?_modify, h]
end

theorem fr_near (w : World) (eb : Nat) (a b c d : Value) : Fr (fun k => k = eb) w ((((w.setCell ⟨eb, 2, none⟩ a).setCell ⟨eb, 3, none⟩ b).setCell ⟨eb, 4, none⟩ c).setCell ⟨eb, 5, none⟩ d) :=
  ((((Fr.refl (fun k => k = eb) w).setCell ⟨eb, 2, none⟩ a (fun _ => rfl)).setCell ⟨eb, 3, none⟩ b (fun _ => rfl)).setCell ⟨eb, 4, none⟩ c (fun _ => rfl)).setCell ⟨eb, 5, none⟩ d (fun _ => rfl)

/-! ### set at a leaf -/

set_option maxHeartbeats 1000000 in
/-- set, where the node is a leaf -/
theorem set_leaf (f : Sl → List UInt8) (L : Lf) (eb : Nat) (root nl : Option Addr) (lo0 hi0 lo hi key : Sl) (p : Nat) (x : Option Addr) (w : World) (h : L.At w) (he : EdAt w eb root nl lo0 hi0 p)
    (hne : ∀ k, L.own k → k ≠ eb) (hlen : L.es.length ≤ 1000) (hf : ∀ e, e ∈ L.es → Byt w e.1 (f e.1)) (hk : Byt w key (f key)) (ha : AscE f L.es) :
    Calls Try.prog 71 #[.pointer (some ⟨eb, 0, none⟩), .pointer (some ⟨L.nb, 0, none⟩), key.v, Value.pointer x, lo.v, hi.v] w fun e w' => (∃ v1 v2, e = .returned (.tuple #[v1, v2])) ∧
      ∃ (L' : Lf) (q : Nat), L'.At w' ∧ L'.nb = L.nb ∧ L'.es = ins f key x L.es ∧ EdAt w' eb root (some ⟨L.nb, 0, none⟩) lo hi q ∧ q ≤ 1000 ∧ Fr (fun k => L.own k ∨ k = eb) w w' ∧ (∀ k, L'.own k → L.own k ∨ w.heap.size ≤ k) := by
  have hc2 := h.node.c2
  have hc4 := h.node.c4
  have HFI := hide (find_any L.nb L.kb L.kc (kss L.es) f key w (by rw [length_kss]; omega) (by rw [length_kss]; exact h.node.c2) h.key (fun s hs => by obtain ⟨e, he, rfl⟩ := List.mem_map.1 hs; exact hf e he) hk ha.keys)
  have H := hide h; have HE := hide he; have HA := hide ha
  clear h he ha hf hk
  go_enter Try.func71, Try.ntmps71
  go_wp2_with (go_at_call 81; refine (leaf_yes L.nb _ hc4).mono ?_; rintro e w1 ⟨rfl, hw1⟩; rw [hw1]; clear hw1 w1)
  refine (unhide HFI).mono ?_
  rintro e w1 ⟨i, rfl, hi1, n1, rfl⟩
  have hil : i ≤ L.es.length := by have := hi1.le; rwa [length_kss] at this
  cases hb : ((kss L.es)[i]?.any fun s => f s == f key) with
  | true =>
    obtain ⟨hlt, heq⟩ := (found_iff key L.es i hil).1 hb
    have e1 : Hid (L.es.set i (L.es[i].1, x) = ins f key x L.es) := hide (ins_found key x L.es i hi1 hlt heq).symm
    clear hb heq hi1
    go_wp2_with fail
    refine (put_found L i key x _ (by exact (unhide H).of_heap rfl) (by omega) hlt).mono ?_
    rintro e w2 ⟨⟨v, rfl⟩, hL2, hF2⟩
    have hE2 := (unhide HE).fr (w' := w2) (F := L.own) ⟨hF2.os, hF2.tape, hF2.output, hF2.size, hF2.block⟩ (fun h => hne eb h rfl)
    have q2 := hE2.c2; have q3 := hE2.c3; have q4 := hE2.c4; have q5 := hE2.c5
    have f2 := hE2.fz 2; have f3 := hE2.fz 3; have f4 := hE2.fz 4; have f5 := hE2.fz 5
    have HL2 := hide hL2; have HF2 := hide hF2; have HE2 := hide hE2
    clear hL2 hF2 hE2
    go_wp2_with fail
    go_ret2
    refine ⟨⟨_, _, rfl⟩, { L with es := L.es.set i (L.es[i].1, x) }, i, ?_, rfl, unhide e1, (unhide HE2).setNear (some ⟨L.nb, 0, none⟩) lo hi i, by omega, ?_, fun k hk => .inl hk⟩
    · refine (unhide HL2).fr (F := fun k => k = eb) (fr_near w2 eb _ _ _ _) (fun k hk he => hne k hk he)
    · have f1 := unhide HF2
      have f2 : Fr (fun k => L.own k ∨ k = eb) w w2 := ⟨f1.os, f1.tape, f1.output, f1.size, fun k hk hn => f1.block k hk (fun h => hn (.inl h))⟩
      exact f2.trans (fr_near w2 eb _ _ _ _) (fun k _ e => .inr e)
  | false =>
    have e1 : Hid (L.es.take i ++ (key, x) :: L.es.drop i = ins f key x L.es) := hide (ins_new key x L.es i hi1 hb (unhide HA)).symm
    clear hb hi1
    go_wp2_with fail
    refine (put_new L i key x _ (by exact (unhide H).of_heap rfl) hlen hil).mono ?_
    rintro e w2 ⟨⟨v, rfl⟩, L', hL2, hnb, hes, hF2, hown⟩
    have hE2 := (unhide HE).fr (w' := w2) (F := L.own) ⟨hF2.os, hF2.tape, hF2.output, hF2.size, hF2.block⟩ (fun h => hne eb h rfl)
    have q2 := hE2.c2; have q3 := hE2.c3; have q4 := hE2.c4; have q5 := hE2.c5
    have f2 := hE2.fz 2; have f3 := hE2.fz 3; have f4 := hE2.fz 4; have f5 := hE2.fz 5
    have hlt := (unhide HE).lt
    have HL2 := hide hL2; have HF2 := hide hF2; have HE2 := hide hE2; have HNB := hide hnb; have HES := hide hes; have HOWN := hide hown
    clear hL2 hF2 hE2 hnb hes hown
    go_wp2_with fail
    go_ret2
    have hne' : ∀ k, L'.own k → k ≠ eb := fun k hk he => by
      rcases unhide HOWN k hk with h | h
      · exact hne k h he
      · have : w.heap.size ≤ k := h
        omega
    refine ⟨⟨_, _, rfl⟩, L', i, ?_, unhide HNB, (unhide HES).trans (unhide e1), (unhide HE2).setNear (some ⟨L.nb, 0, none⟩) lo hi i, by omega, ?_, unhide HOWN⟩
    · refine (unhide HL2).fr (F := fun k => k = eb) (fr_near w2 eb _ _ _ _) (fun k hk he => hne' k hk he)
    · have f1 := unhide HF2
      have f2 : Fr (fun k => L.own k ∨ k = eb) w w2 := ⟨f1.os, f1.tape, f1.output, f1.size, fun k hk hn => f1.block k hk (fun h => hn (.inl h))⟩
      exact f2.trans (fr_near w2 eb _ _ _ _) (fun k _ e => .inr e)
end Go.Proofs.Qxb6615626a.BV
