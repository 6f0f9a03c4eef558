/-
  The least key at or above a key: node.first, Tree.least, First, After (V = *Version).
-/
import Derived.Test.Qxb6615626aOkfB
import Derived.Test.Qxb6615626aRank
import Derived.Deep.LoopGhost
namespace Go.Proofs.Qxb6615626a.BV
open Go.RowKit
set_option linter.unusedVariables false

/-- the place of the least key at or above k (above it, where 'above' is set) -/
def fidx (f : Sl → List UInt8) (es : List (Sl × Option Addr)) (k : List UInt8) (above : Bool) : Nat :=
  lb f (kss es) k + if above && fnd f (kss es) k then 1 else 0

/-- what is handed back for the entry in that place -/
def firstRes (es : List (Sl × Option Addr)) (i : Nat) : Value := match es[i]? with
  | some e => .tuple #[.slice e.1.a e.1.n e.1.c, .pointer e.2, .bool true]
  | none => .tuple #[.slice none 0 0, .pointer none, .bool false]

theorem firstRes_lt {es : List (Sl × Option Addr)} {i : Nat} (h : i < es.length) : firstRes es i = .tuple #[.slice es[i].1.a es[i].1.n es[i].1.c, .pointer es[i].2, .bool true] := by
  unfold firstRes; rw [List.getElem?_eq_getElem h]
theorem firstRes_ge {es : List (Sl × Option Addr)} {i : Nat} (h : es.length ≤ i) : firstRes es i = .tuple #[.slice none 0 0, .pointer none, .bool false] := by
  unfold firstRes; rw [List.getElem?_eq_none h]

theorem fidx_le {f : Sl → List UInt8} {es : List (Sl × Option Addr)} (ha : AscE f es) (k : List UInt8) (above : Bool) : fidx f es k above ≤ es.length := by
  have h := (lb_LB ha.keys k).le
  have h' : lb f (kss es) k ≤ es.length := by unfold kss; simpa using h
  unfold fidx
  by_cases c : (above && fnd f (kss es) k) = true
  · rw [if_pos c]
    have hf : fnd f (kss es) k = true := by simp at c; exact c.2
    unfold fnd at hf
    cases hg : (kss es)[lb f (kss es) k]? with
    | none => rw [hg] at hf; simp at hf
    | some s => have := (List.getElem?_eq_some_iff.1 hg).1; rw [length_kss] at this; omega
  · rw [if_neg c]; omega

set_option maxHeartbeats 2000000 in
theorem node_first_leaf (L : Lf) (f : Sl → List UInt8) (key : Sl) (above : Bool) (w : World) (h : L.At w) (hlen : L.es.length ≤ 256) (hf : ∀ e ∈ L.es, Byt w e.1 (f e.1)) (hk : Byt w key (f key)) (ha : AscE f L.es) :
    Calls Try.prog 116 #[.pointer (some ⟨L.nb, 0, none⟩), .slice key.a key.n key.c, .bool above] w fun e w' => e = .returned (firstRes L.es (fidx f L.es (f key) above)) ∧ ∃ n, w' = w.drewN n := by
  have HFI := hide (find_is L.nb L.kb L.kc (kss L.es) f key w (by rw [length_kss]; omega) (by rw [length_kss]; exact h.node.c2) h.key (fun s hs => by obtain ⟨e, he, rfl⟩ := List.mem_map.1 hs; exact hf e he) hk ha.keys)
  have d2 := h.node.c2; have d3 := h.node.c3; have d4 := h.node.c4
  have hle := fidx_le ha (f key) above
  obtain ⟨l, hl⟩ : ∃ l, l = lb f (kss L.es) (f key) := ⟨_, rfl⟩
  obtain ⟨b, hb⟩ : ∃ b, b = fnd f (kss L.es) (f key) := ⟨_, rfl⟩
  obtain ⟨i, hi⟩ : ∃ i, i = fidx f L.es (f key) above := ⟨_, rfl⟩
  rw [← hl, ← hb] at HFI
  rw [← hi] at hle ⊢
  have hil : i = l + if above && b then 1 else 0 := by rw [hi, hl, hb]; rfl
  have HHL := hide h
  clear h hf hk ha hl hb hi
  have hll : l ≤ L.es.length := by omega
  by_cases hlt : i < L.es.length
  · obtain ⟨s, hs⟩ : ∃ s, s = L.es[i].1 := ⟨_, rfl⟩
    obtain ⟨x, hx⟩ : ∃ x, x = L.es[i].2 := ⟨_, rfl⟩
    have hkc : w.cell? ⟨L.kb, i, none⟩ = some (.slice s.a s.n s.c) := by rw [hs]; exact (unhide HHL).keys.cell? (kvs_get _ _ hlt)
    have hvc : w.cell? ⟨L.vb, i, none⟩ = some (.pointer x) := by rw [hx]; exact (unhide HHL).vals.cell? (vvs_get _ _ hlt)
    have hne : ((i : Int) == (L.es.length : Int)) = false := by rw [beq_eq_false_iff_ne]; omega
    have HS := hide hs; have HX := hide hx
    clear hs hx
    cases hab : (above && b) with
    | true =>
      rw [hab] at hil
      have ha1 : above = true := by simp at hab; exact hab.1
      have hb1 : b = true := by simp at hab; exact hab.2
      subst ha1 hb1
      have hil2 : (l : Int) + 1 = (i : Int) := by simp at hil; omega
      clear hab hil
      go_enter Try.func116, Try.ntmps116
      go_wp2_with (go_at_call 81; refine (leaf_yes L.nb _ d4).mono ?_; rintro e w1 ⟨rfl, hw1⟩; rw [hw1]; clear hw1 w1)
      refine (unhide HFI).mono ?_
      rintro e W1 ⟨rfl, n1, hW1⟩
      have q2 : W1.cell? ⟨L.nb, 2, none⟩ = some (.slice (some ⟨L.kb, 0, none⟩) L.es.length L.kc) := by rw [hW1]; exact d2
      have q3 : W1.cell? ⟨L.nb, 3, none⟩ = some (.slice (some ⟨L.vb, 0, none⟩) L.es.length L.vc) := by rw [hW1]; exact d3
      have q4 : W1.cell? ⟨L.kb, i, none⟩ = some (.slice s.a s.n s.c) := by rw [hW1]; exact hkc
      have q5 : W1.cell? ⟨L.vb, i, none⟩ = some (.pointer x) := by rw [hW1]; exact hvc
      have HW1 := hide hW1
      clear hW1
      go_wp2_with fail
      go_quiet (fail)
      go_wp2_with fail
      refine bodyPost_ret (v := .tuple #[.slice s.a s.n s.c, .pointer x, .bool true]) (by simp [results, Try.results116, go_sem]) rfl ?_
      exact ⟨by rw [firstRes_lt hlt, unhide HS, unhide HX], _, by rw [unhide HW1, World.drewN_drewN]⟩
    | false =>
      rw [hab] at hil
      have hil2 : l = i := by simp at hil; omega
      subst hil2
      cases b with
      | false =>
        clear hab hil
        go_enter Try.func116, Try.ntmps116
        go_wp2_with (go_at_call 81; refine (leaf_yes L.nb _ d4).mono ?_; rintro e w1 ⟨rfl, hw1⟩; rw [hw1]; clear hw1 w1)
        refine (unhide HFI).mono ?_
        rintro e W1 ⟨rfl, n1, hW1⟩
        have q2 : W1.cell? ⟨L.nb, 2, none⟩ = some (.slice (some ⟨L.kb, 0, none⟩) L.es.length L.kc) := by rw [hW1]; exact d2
        have q3 : W1.cell? ⟨L.nb, 3, none⟩ = some (.slice (some ⟨L.vb, 0, none⟩) L.es.length L.vc) := by rw [hW1]; exact d3
        have q4 : W1.cell? ⟨L.kb, l, none⟩ = some (.slice s.a s.n s.c) := by rw [hW1]; exact hkc
        have q5 : W1.cell? ⟨L.vb, l, none⟩ = some (.pointer x) := by rw [hW1]; exact hvc
        have HW1 := hide hW1
        clear hW1
        go_wp2_with fail
        go_quiet (fail)
        go_wp2_with fail
        refine bodyPost_ret (v := .tuple #[.slice s.a s.n s.c, .pointer x, .bool true]) (by simp [results, Try.results116, go_sem]) rfl ?_
        exact ⟨by rw [firstRes_lt hlt, unhide HS, unhide HX], _, by rw [unhide HW1, World.drewN_drewN]⟩
      | true =>
        have ha1 : above = false := by simpa using hab
        subst ha1
        clear hab hil
        go_enter Try.func116, Try.ntmps116
        go_wp2_with (go_at_call 81; refine (leaf_yes L.nb _ d4).mono ?_; rintro e w1 ⟨rfl, hw1⟩; rw [hw1]; clear hw1 w1)
        refine (unhide HFI).mono ?_
        rintro e W1 ⟨rfl, n1, hW1⟩
        have q2 : W1.cell? ⟨L.nb, 2, none⟩ = some (.slice (some ⟨L.kb, 0, none⟩) L.es.length L.kc) := by rw [hW1]; exact d2
        have q3 : W1.cell? ⟨L.nb, 3, none⟩ = some (.slice (some ⟨L.vb, 0, none⟩) L.es.length L.vc) := by rw [hW1]; exact d3
        have q4 : W1.cell? ⟨L.kb, l, none⟩ = some (.slice s.a s.n s.c) := by rw [hW1]; exact hkc
        have q5 : W1.cell? ⟨L.vb, l, none⟩ = some (.pointer x) := by rw [hW1]; exact hvc
        have HW1 := hide hW1
        clear hW1
        go_wp2_with fail
        go_quiet (fail)
        go_wp2_with fail
        refine bodyPost_ret (v := .tuple #[.slice s.a s.n s.c, .pointer x, .bool true]) (by simp [results, Try.results116, go_sem]) rfl ?_
        exact ⟨by rw [firstRes_lt hlt, unhide HS, unhide HX], _, by rw [unhide HW1, World.drewN_drewN]⟩
  · have hie : i = L.es.length := by omega
    have HRES := hide (firstRes_ge (es := L.es) (i := i) (by omega))
    have he1 : ((i : Int) == (L.es.length : Int)) = true := by rw [beq_iff_eq]; omega
    cases hab : (above && b) with
    | true =>
      rw [hab] at hil
      have ha1 : above = true := by simp at hab; exact hab.1
      have hb1 : b = true := by simp at hab; exact hab.2
      subst ha1 hb1
      have hil2 : (l : Int) + 1 = (i : Int) := by simp at hil; omega
      clear hab hil hie
      go_enter Try.func116, Try.ntmps116
      go_wp2_with (go_at_call 81; refine (leaf_yes L.nb _ d4).mono ?_; rintro e w1 ⟨rfl, hw1⟩; rw [hw1]; clear hw1 w1)
      refine (unhide HFI).mono ?_
      rintro e W1 ⟨rfl, n1, hW1⟩
      have q2 : W1.cell? ⟨L.nb, 2, none⟩ = some (.slice (some ⟨L.kb, 0, none⟩) L.es.length L.kc) := by rw [hW1]; exact d2
      have HW1 := hide hW1
      clear hW1
      go_wp2_with fail
      refine bodyPost_ret (v := .tuple #[.slice none 0 0, .pointer none, .bool false]) (by simp [results, Try.results116, go_sem]) rfl ?_
      exact ⟨by rw [unhide HRES], _, unhide HW1⟩
    | false =>
      rw [hab] at hil
      have hil2 : l = i := by simp at hil; omega
      subst hil2
      cases b with
      | false =>
        clear hab hil hie
        go_enter Try.func116, Try.ntmps116
        go_wp2_with (go_at_call 81; refine (leaf_yes L.nb _ d4).mono ?_; rintro e w1 ⟨rfl, hw1⟩; rw [hw1]; clear hw1 w1)
        refine (unhide HFI).mono ?_
        rintro e W1 ⟨rfl, n1, hW1⟩
        have q2 : W1.cell? ⟨L.nb, 2, none⟩ = some (.slice (some ⟨L.kb, 0, none⟩) L.es.length L.kc) := by rw [hW1]; exact d2
        have HW1 := hide hW1
        clear hW1
        go_wp2_with fail
        refine bodyPost_ret (v := .tuple #[.slice none 0 0, .pointer none, .bool false]) (by simp [results, Try.results116, go_sem]) rfl ?_
        exact ⟨by rw [unhide HRES], _, unhide HW1⟩
      | true =>
        have ha1 : above = false := by simpa using hab
        subst ha1
        clear hab hil hie
        go_enter Try.func116, Try.ntmps116
        go_wp2_with (go_at_call 81; refine (leaf_yes L.nb _ d4).mono ?_; rintro e w1 ⟨rfl, hw1⟩; rw [hw1]; clear hw1 w1)
        refine (unhide HFI).mono ?_
        rintro e W1 ⟨rfl, n1, hW1⟩
        have q2 : W1.cell? ⟨L.nb, 2, none⟩ = some (.slice (some ⟨L.kb, 0, none⟩) L.es.length L.kc) := by rw [hW1]; exact d2
        have HW1 := hide hW1
        clear hW1
        go_wp2_with fail
        refine bodyPost_ret (v := .tuple #[.slice none 0 0, .pointer none, .bool false]) (by simp [results, Try.results116, go_sem]) rfl ?_
        exact ⟨by rw [unhide HRES], _, unhide HW1⟩

theorem kss_app (A B : List (Sl × Option Addr)) : kss (A ++ B) = kss A ++ kss B := by unfold kss; rw [List.map_append]

theorem lb_below {f : Sl → List UInt8} {A X : List Sl} {k : List UInt8} (hA : ∀ s ∈ A, Pl.lt (f s) k) : lb f (A ++ X) k = A.length + lb f X k := by
  have hn : A.findIdx (fun s => decide (0 ≤ Pl.cmp (f s) k)) = A.length := by
    rw [List.findIdx_eq_length]
    intro s hs
    have := hA s hs
    unfold Pl.lt at this
    simp; omega
  unfold lb
  rw [List.findIdx_append, hn, if_neg (by omega)]; omega

theorem lb_above {f : Sl → List UInt8} {B C : List Sl} {k : List UInt8} (hC : ∀ s ∈ C, Pl.lt k (f s)) : lb f (B ++ C) k = lb f B k := by
  unfold lb
  rw [List.findIdx_append]
  by_cases h : B.findIdx (fun s => decide (0 ≤ Pl.cmp (f s) k)) < B.length
  · rw [if_pos h]
  · rw [if_neg h]
    have h1 : B.findIdx (fun s => decide (0 ≤ Pl.cmp (f s) k)) = B.length := by have := @List.findIdx_le_length _ (fun s => decide (0 ≤ Pl.cmp (f s) k)) B; omega
    have h2 : C.findIdx (fun s => decide (0 ≤ Pl.cmp (f s) k)) = 0 := by
      cases C with
      | nil => rfl
      | cons c C =>
        have := (Pl.cmp_pos_iff _ _).2 (hC c (by simp))
        rw [List.findIdx_cons, show decide (0 ≤ Pl.cmp (f c) k) = true from by rw [decide_eq_true_iff]; omega]; rfl
    rw [h1, h2]; omega

theorem mem_kss {A : List (Sl × Option Addr)} {s : Sl} (h : s ∈ kss A) : ∃ e ∈ A, e.1 = s := by unfold kss at h; obtain ⟨e, he, h⟩ := List.mem_map.1 h; exact ⟨e, he, h⟩

theorem lb_app {f : Sl → List UInt8} {A B C : List (Sl × Option Addr)} (k : List UInt8) (hA : ∀ e ∈ A, Pl.lt (f e.1) k) (hC : ∀ e ∈ C, Pl.lt k (f e.1)) : lb f (kss (A ++ B ++ C)) k = A.length + lb f (kss B) k := by
  rw [kss_app, kss_app, List.append_assoc, lb_below (fun s hs => by obtain ⟨e, he, rfl⟩ := mem_kss hs; exact hA e he), lb_above (fun s hs => by obtain ⟨e, he, rfl⟩ := mem_kss hs; exact hC e he), length_kss]

theorem fnd_app {f : Sl → List UInt8} {A B C : List (Sl × Option Addr)} (k : List UInt8) (hA : ∀ e ∈ A, Pl.lt (f e.1) k) (hC : ∀ e ∈ C, Pl.lt k (f e.1)) : fnd f (kss (A ++ B ++ C)) k = fnd f (kss B) k := by
  unfold fnd
  rw [lb_app k hA hC, kss_app, kss_app, List.append_assoc, ← length_kss A, List.getElem?_append_right (by omega), Nat.add_sub_cancel_left]
  by_cases hb : lb f (kss B) k < (kss B).length
  · rw [List.getElem?_append_left hb]
  · have hle : lb f (kss B) k ≤ (kss B).length := List.findIdx_le_length
    have hz : lb f (kss B) k = (kss B).length := by omega
    rw [List.getElem?_append_right (by omega), hz, Nat.sub_self, List.getElem?_eq_none (Nat.le_refl _)]
    cases C with
    | nil => rfl
    | cons c C =>
      have := hC c (by simp)
      show (f c.1 == k) = false
      rw [beq_eq_false_iff_ne]
      exact fun e => ne_of_lt this e.symm

theorem fidx_app {f : Sl → List UInt8} {A B C : List (Sl × Option Addr)} (h : AscE f (A ++ B ++ C)) (k : List UInt8) (ab : Bool) (hA : ∀ e ∈ A, Pl.lt (f e.1) k) (hC : ∀ e ∈ C, Pl.lt k (f e.1)) : fidx f (A ++ B ++ C) k ab = A.length + fidx f B k ab := by
  unfold fidx
  rw [lb_app k hA hC, fnd_app k hA hC, Nat.add_assoc]

/-- a key below all the others -/
theorem fidx_zero {f : Sl → List UInt8} {C : List (Sl × Option Addr)} (h : AscE f C) (k : List UInt8) (ab : Bool) (hC : ∀ e ∈ C, Pl.lt k (f e.1)) : fidx f C k ab = 0 := by
  have := fidx_app (A := []) (B := []) (C := C) (f := f) (by simpa using h) k ab (fun e he => by simp at he) hC
  simp only [List.nil_append, List.length_nil, Nat.zero_add] at this
  rw [this]
  unfold fidx
  have e1 : lb f (kss ([] : List (Sl × Option Addr))) k = 0 := rfl
  have e2 : fnd f (kss ([] : List (Sl × Option Addr))) k = false := rfl
  rw [e1, e2]; simp

/-- from the first key on -/
theorem fidx_nil {f : Sl → List UInt8} {es : List (Sl × Option Addr)} (h : AscE f es) : fidx f es [] false = 0 := by
  unfold fidx
  simp only [Bool.false_and, Bool.false_eq_true, if_false, Nat.add_zero]
  have hb := lb_LB h.keys []
  by_cases h0 : 0 < lb f (kss es) []
  · have h1 : 0 < (kss es).length := by have := hb.le; unfold kss at h0 ⊢; omega
    have := hb.below 0 h1 h0
    exact absurd this (Pl.not_lt_nil _)
  · omega

/-- the next key -/
theorem fidx_next {f : Sl → List UInt8} {es : List (Sl × Option Addr)} (h : AscE f es) {p : Nat} (hp : p < es.length) : fidx f es (f es[p].1) true = p + 1 := by
  have hl : lb f (kss es) (f es[p].1) = p := by
    refine (lb_LB h.keys _).unique (LB.of h.keys (by simp; omega) ?_ ?_)
    · intro h0
      have := List.pairwise_iff_getElem.1 h (p - 1) p (by omega) hp (by omega)
      simpa using this
    · intro h0
      simp
      exact Pl.lt_irrefl _
  unfold fidx
  have hf : fnd f (kss es) (f es[p].1) = true := by
    unfold fnd
    rw [hl]
    unfold kss
    rw [List.getElem?_map, List.getElem?_eq_getElem hp]
    simp
  rw [hl, hf]; simp

/-- the leaf that a key routes to, and the rest -/
theorem place_of {f : Sl → List UInt8} {T : Tr} {k : List UInt8} {i : Nat} (hU : UB f T.seps k i) (hl : T.seps.length + 1 = T.ls.length) :
    ∃ A L C, Place f T k A L C ∧ A.length = i := by
  have hi : i < T.ls.length := by have := hU.le; omega
  refine ⟨T.ls.take i, T.ls[i], T.ls.drop (i + 1), ⟨by rw [List.getElem_cons_drop, List.take_append_drop], ?_, ?_⟩, by simp; omega⟩
  · intro j s hs hj
    obtain ⟨h1, rfl⟩ := List.getElem?_eq_some_iff.1 hs
    exact hU.below j h1 (by simp at hj; omega)
  · intro j s hs hj
    obtain ⟨h1, rfl⟩ := List.getElem?_eq_some_iff.1 hs
    exact hU.above j h1 (by simp at hj; omega)

set_option maxRecDepth 20000 in
set_option maxHeartbeats 4000000 in
theorem node_first_inn (I : Inn) (T : Tr) (f : Sl → List UInt8) (K : Sl → Prop) (B eb : Nat) (key : Sl) (above : Bool) (w : World) (h : Ok f K B w eb T) (hk : KOK f K B w) (hn : T.es.length ≤ 7000) (hkey : Byt w key (f key)) (hI : T.inn = some I) :
    Calls Try.prog 116 #[.pointer (some ⟨I.rb, 0, none⟩), .slice key.a key.n key.c, .bool above] w fun e w' => e = .returned (firstRes T.es (fidx f T.es (f key) above)) ∧ ∃ n, w' = w.drewN n := by
  obtain ⟨hIA, h2, hsl, h128⟩ : I.At w T.seps (T.ls.map Lf.nb) ∧ 2 ≤ T.ls.length ∧ T.seps.length + 1 = T.ls.length ∧ (∀ L ∈ T.ls, 128 ≤ L.es.length) := by
    rcases h.core.sh with ⟨g, _⟩ | ⟨J, h1, h2, h3, h4, h5, _⟩
    · rw [g] at hI; cases hI
    · rw [h1] at hI; cases hI; exact ⟨h2, h3, h4, h5⟩
  have hlen : T.ls.length ≤ 60 := by have := leaves_le T.ls h128; unfold Tr.es at hn; omega
  have HRT := hide (route_any I.rb I.kb I.kc T.seps f key w (by omega) hIA.node.c2 hIA.key (fun s hs => (hk s (h.core.sk s hs).1).1) hkey h.core.sa)
  have hbyt : ∀ L ∈ T.ls, ∀ e ∈ L.es, Byt w e.1 (f e.1) := fun L hL e he => (hk e.1 (h.core.kk L hL e he)).1
  have HLF := hide (show ∀ L ∈ T.ls, ∀ W : World, W.heap = w.heap → Calls Try.prog 116 #[.pointer (some ⟨L.nb, 0, none⟩), .slice key.a key.n key.c, .bool above] W fun e w' => e = .returned (firstRes L.es (fidx f L.es (f key) above)) ∧ ∃ n, w' = W.drewN n from by
    intro L hL W hW
    refine node_first_leaf L f key above W ((h.core.lf L hL).of_heap hW) (h.full L hL) (fun e he => ?_) ?_ ?_
    · exact (hbyt L hL e he).of_cells fun o _ => by simp only [World.cell?, hW]
    · exact hkey.of_cells fun o _ => by simp only [World.cell?, hW]
    · have := h.core.asc
      unfold Tr.es at this
      obtain ⟨A, C, hAC⟩ := List.append_of_mem hL
      rw [hAC, List.flatMap_append, List.flatMap_cons] at this
      exact (List.pairwise_append.1 (List.pairwise_append.1 this).2.1).1)
  have d4 := hIA.node.c4
  have HIA := hide hIA; have H := hide h
  clear hbyt hk hkey h hIA
  go_enter Try.func116, Try.ntmps116
  go_wp2_with (go_at_call 81; refine (leaf_no I.rb _ _ _ _ d4).mono ?_; rintro e w1 ⟨rfl, hw1⟩; rw [hw1]; clear hw1 w1)
  refine (unhide HRT).mono ?_
  rintro e W1 ⟨i, rfl, hU, n1, hW1⟩
  obtain ⟨A, L, C, hP, hAi⟩ := place_of hU hsl
  have hLm : L ∈ T.ls := by rw [hP.ls]; simp
  have hpos : 0 < L.es.length := by have := h128 L hLm; omega
  have hesAll : T.es = A.flatMap Lf.es ++ L.es ++ C.flatMap Lf.es := by unfold Tr.es; rw [hP.ls, List.flatMap_append, List.flatMap_cons, List.append_assoc]
  have hbel := hP.below (unhide H).core
  have habv := hP.above (unhide H).core
  have hasc := (unhide H).core.asc
  rw [hesAll] at hasc
  have HFX := hide (show fidx f T.es (f key) above = (A.flatMap Lf.es).length + fidx f L.es (f key) above from by rw [hesAll]; exact fidx_app hasc (f key) above hbel habv)
  have HAC := hide (show AscE f (C.flatMap Lf.es) from (List.pairwise_append.1 hasc).2.1)
  have hLasc : AscE f L.es := (List.pairwise_append.1 (List.pairwise_append.1 hasc).1).2.1
  have hfl := fidx_le hLasc (f key) above
  have hcl : (T.ls.map Lf.nb).length = T.ls.length := by simp
  have hTl : T.ls.length = i + 1 + C.length := by rw [hP.ls]; simp; omega
  have hkd : w.cell? ⟨I.cb, i, none⟩ = some (.pointer (some ⟨L.nb, 0, none⟩)) := by
    have := (unhide HIA).kid i (by rw [hcl]; omega)
    rw [this]
    congr 3
    simp [hP.ls, hAi]
  have HES := hide hesAll; have HAB := hide habv
  have q4 : W1.cell? ⟨I.rb, 4, none⟩ = some (.slice (some ⟨I.cb, 0, none⟩) (T.ls.map Lf.nb).length I.cc) := by rw [hW1]; exact d4
  have qk : W1.cell? ⟨I.cb, i, none⟩ = some (.pointer (some ⟨L.nb, 0, none⟩)) := by rw [hW1]; exact hkd
  rw [hcl] at q4
  have hit : (i : Int) < (T.ls.length : Int) := by omega
  have HL1 := hide ((unhide HLF) L hLm W1 (by rw [hW1]; rfl))
  have HW1 := hide hW1
  have HP := hide hP
  clear hU hesAll hbel habv hasc hLasc hkd hW1 d4 hP hcl
  obtain ⟨p, hp⟩ : ∃ p, p = fidx f L.es (f key) above := ⟨_, rfl⟩
  rw [← hp] at HL1 HFX hfl
  have HPP := hide hp
  clear hp
  by_cases hlt : p < L.es.length
  · have HR := hide (show firstRes T.es (fidx f T.es (f key) above) = firstRes L.es p from by
      rw [unhide HFX]
      unfold firstRes
      rw [unhide HES, List.append_assoc, List.getElem?_append_right (by omega), Nat.add_sub_cancel_left, List.getElem?_append_left hlt])
    rw [firstRes_lt hlt] at HL1 HR
    obtain ⟨s, hs⟩ : ∃ s, s = L.es[p].1 := ⟨_, rfl⟩
    obtain ⟨x, hx⟩ : ∃ x, x = L.es[p].2 := ⟨_, rfl⟩
    rw [← hs, ← hx] at HL1 HR
    clear hs hx
    go_wp2_with fail
    refine wp_loop_rounds 1 ?_
    rw [rounds_succ]
    go_wp2_with fail
    refine (unhide HL1).mono ?_
    rintro e W2 ⟨rfl, n2, hW2⟩
    have HW2 := hide (show W2 = w.drewN (n1 + n2) from by rw [hW2, unhide HW1, World.drewN_drewN])
    clear hW2
    go_wp2_with fail
    refine bodyPost_ret (v := .tuple #[.slice s.a s.n s.c, .pointer x, .bool true]) (by simp [results, Try.results116, go_sem]) rfl ?_
    exact ⟨by rw [unhide HR], _, unhide HW2⟩
  · have hpe : p = L.es.length := by omega
    rw [firstRes_ge (by omega)] at HL1
    cases hC : C with
    | nil =>
      have hTl2 : ¬ (i : Int) + 1 < (T.ls.length : Int) := by rw [hC] at hTl; simp at hTl; omega
      have HR := hide (show firstRes T.es (fidx f T.es (f key) above) = .tuple #[.slice none 0 0, .pointer none, .bool false] from by
        rw [unhide HFX]
        refine firstRes_ge ?_
        rw [unhide HES, hC, hpe]; simp)
      go_wp2_with fail
      refine wp_loop_rounds 2 ?_
      rw [rounds_succ]
      go_wp2_with fail
      refine (unhide HL1).mono ?_
      rintro e W2 ⟨rfl, n2, hW2⟩
      have r4 : W2.cell? ⟨I.rb, 4, none⟩ = some (.slice (some ⟨I.cb, 0, none⟩) T.ls.length I.cc) := by rw [hW2]; exact q4
      have HW2 := hide (show W2 = w.drewN (n1 + n2) from by rw [hW2, unhide HW1, World.drewN_drewN])
      clear hW2
      go_wp2_with fail
      rw [rounds_succ]
      go_wp2_with fail
      refine bodyPost_ret (v := .tuple #[.slice none 0 0, .pointer none, .bool false]) (by simp [results, Try.results116, go_sem]) rfl ?_
      exact ⟨by rw [unhide HR], _, unhide HW2⟩
    | cons M C' =>
      have hMm : M ∈ T.ls := by rw [(unhide HP).ls, hC]; simp
      have hMpos : 0 < M.es.length := by have := h128 M hMm; omega
      have hTl2 : (i : Int) + 1 < (T.ls.length : Int) := by rw [hC] at hTl; simp at hTl; omega
      have hi1 : i + 1 < T.ls.length := by omega
      have hMC : (C.flatMap Lf.es) = M.es ++ C'.flatMap Lf.es := by rw [hC, List.flatMap_cons]
      have hMz : fidx f M.es (f key) above = 0 := by
        have hac := unhide HAC
        rw [hMC] at hac
        exact fidx_zero (List.pairwise_append.1 hac).1 (f key) above (fun e he => (unhide HAB) e (by rw [hMC]; simp [he]))
      have HR := hide (show firstRes T.es (fidx f T.es (f key) above) = firstRes M.es 0 from by
        rw [unhide HFX]
        unfold firstRes
        rw [unhide HES, hMC, List.getElem?_append_right (by simp; omega), hpe]
        have e : (A.flatMap Lf.es).length + L.es.length - (A.flatMap Lf.es ++ L.es).length = 0 := by rw [List.length_append]; omega
        rw [e, List.getElem?_append_left hMpos])
      have HL2 := hide ((unhide HLF) M hMm)
      rw [hMz] at HL2
      rw [firstRes_lt hMpos] at HL2 HR
      obtain ⟨s, hs⟩ : ∃ s, s = M.es[0].1 := ⟨_, rfl⟩
      obtain ⟨x, hx⟩ : ∃ x, x = M.es[0].2 := ⟨_, rfl⟩
      rw [← hs, ← hx] at HL2 HR
      have hkM : w.cell? ⟨I.cb, i + 1, none⟩ = some (.pointer (some ⟨M.nb, 0, none⟩)) := by
        have := (unhide HIA).kid (i + 1) (by simp; omega)
        rw [this]
        congr 3
        have e : T.ls[i + 1]? = some M := by rw [(unhide HP).ls, hC, List.getElem?_append_right (by omega), hAi]; simp
        have := (List.getElem?_eq_some_iff.1 e).2
        simp [this]
      have qM : W1.cell? ⟨I.cb, i + 1, none⟩ = some (.pointer (some ⟨M.nb, 0, none⟩)) := by rw [unhide HW1]; exact hkM
      have HC := hide hC
      clear hs hx hMz hMC hkM hC hTl
      go_wp2_with fail
      refine wp_loop_rounds 2 ?_
      rw [rounds_succ]
      go_wp2_with fail
      refine (unhide HL1).mono ?_
      rintro e W2 ⟨rfl, n2, hW2⟩
      have r4 : W2.cell? ⟨I.rb, 4, none⟩ = some (.slice (some ⟨I.cb, 0, none⟩) T.ls.length I.cc) := by rw [hW2]; exact q4
      have rM : W2.cell? ⟨I.cb, i + 1, none⟩ = some (.pointer (some ⟨M.nb, 0, none⟩)) := by rw [hW2]; exact qM
      have HL3 := hide ((unhide HL2) W2 (by rw [hW2, unhide HW1]; rfl))
      have HW2 := hide (show W2 = w.drewN (n1 + n2) from by rw [hW2, unhide HW1, World.drewN_drewN])
      clear hW2
      go_wp2_with fail
      rw [rounds_succ]
      go_wp2_with fail
      refine (unhide HL3).mono ?_
      rintro e W3 ⟨rfl, n3, hW3⟩
      have HW3 := hide (show W3 = w.drewN (n1 + n2 + n3) from by rw [hW3, unhide HW2, World.drewN_drewN])
      clear hW3
      go_wp2_with fail
      refine bodyPost_ret (v := .tuple #[.slice s.a s.n s.c, .pointer x, .bool true]) (by simp [results, Try.results116, go_sem]) rfl ?_
      exact ⟨by rw [unhide HR], _, unhide HW3⟩
end Go.Proofs.Qxb6615626a.BV
