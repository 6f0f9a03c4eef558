/-
  zzTree.
-/
import Derived.Test.Qxb6615626aCom
import Derived.Test.Qxb6615626aVers
import Derived.Deep.RegionWith
namespace Go.Proofs.Qxb6615626a.BV
open Go.RowKit
set_option linter.unusedVariables false

theorem ok_empty (f : Sl → List UInt8) (K : Sl → Prop) (B eb : Nat) (w : World) (hB : B ≤ eb) (hE : EdAt w eb none none Sl.nil Sl.nil 0) : Ok f K B w eb ⟨[], none, []⟩ := by
  have hn : ∀ L : Lf, ¬ L ∈ ([] : List Lf) := fun L h => nomatch h
  refine ⟨⟨fun L h => absurd h (hn L), Or.inl ⟨rfl, Nat.zero_le _, rfl⟩, List.Pairwise.nil, fun L h => absurd h (hn L), ?_, hE.lt, fun L h => absurd h (hn L), fun s h => (nomatch h), List.Pairwise.nil, fun j s L h => (nomatch h), fun j s L h => (nomatch h), List.Pairwise.nil⟩, fun L h => absurd h (hn L), none, Sl.nil, Sl.nil, 0, hE, Nat.zero_le _, Or.inl rfl⟩
  rintro k (rfl | ⟨L, h, _⟩ | ⟨I, h, _⟩)
  · exact hB
  · cases h
  · cases h

theorem length_insAll {X : Type} {f : Sl → List UInt8} : ∀ (kvs es : List (Sl × X)), (insAll f es kvs).length ≤ es.length + kvs.length
  | [], es => by simp [insAll]
  | e :: kvs, es => by
    have := length_insAll (f := f) kvs (ins f e.1 e.2 es)
    have h2 := (length_ins (f := f) e.1 e.2 es).2
    show (insAll f (ins f e.1 e.2 es) kvs).length ≤ _
    simp only [List.length_cons]
    omega

theorem insAll_snoc {X : Type} {f : Sl → List UInt8} (kvs es : List (Sl × X)) (e : Sl × X) : insAll f es (kvs ++ [e]) = ins f e.1 e.2 (insAll f es kvs) := by
  unfold insAll; rw [List.foldl_append]; rfl

/-- the order in which the writes are put in -/
def ordOf (ks : List Sl) (vs : List (Option Addr)) (rev : Bool) : List (Sl × Option Addr) := if rev then (ks.zip vs).reverse else ks.zip vs

def TreePost (f : Sl → List UInt8) (K : Sl → Prop) (kvs : List (Sl × Option Addr)) (w : World) (e : Ending) (w' : World) : Prop :=
  ∃ (eb : Nat) (T : Tr), e = .returned (.pointer (some ⟨eb, 0, none⟩)) ∧ Ok f K w.heap.size w' eb T ∧ T.es = insAll f [] kvs ∧ Fr (fun _ => False) w w'

/-- what the filling loop has done behind k rounds -/
structure Fill (f : Sl → List UInt8) (K : Sl → Prop) (w0 w : World) (eb : Nat) (ord : List (Sl × Option Addr)) (k : Nat) (T : Tr) : Prop where
  ok : Ok f K w0.heap.size w eb T
  es : T.es = insAll f [] (ord.take k)
  fr : Fr (fun _ => False) w0 w

theorem Fill.keep {f : Sl → List UInt8} {K : Sl → Prop} {w0 w w' : World} {eb : Nat} {ord : List (Sl × Option Addr)} {k : Nat} {T : Tr} (h : Fill f K w0 w eb ord k T) (hf : Fr (fun _ => False) w w') : Fill f K w0 w' eb ord k T :=
  ⟨h.ok.fr hf (fun _ _ e => e), h.es, h.fr.trans hf (fun _ _ e => e)⟩

theorem Fill.set {f : Sl → List UInt8} {K : Sl → Prop} {w0 w w' : World} {eb : Nat} {ord : List (Sl × Option Addr)} {k : Nat} {T : Tr} {key : Sl} {x : Option Addr} {e : Ending} (h : Fill f K w0 w eb ord k T) (hp : SetPost f K w0.heap.size eb T key x w e w') (hk : ord[k]? = some (key, x)) :
    (∃ v1 v2, e = .returned (.tuple #[v1, v2])) ∧ ∃ T', Fill f K w0 w' eb ord (k + 1) T' := by
  obtain ⟨h1, T', h2, h3, h4, h5⟩ := hp
  refine ⟨h1, T', h2, ?_, h.fr.trans h4 (fun i hi g => absurd (h.ok.core.low i g) (by omega))⟩
  obtain ⟨hl, he⟩ := List.getElem?_eq_some_iff.1 hk
  rw [h3, h.es, List.take_succ_eq_append_getElem hl, he, insAll_snoc]


theorem length_ordOf (ks : List Sl) (vs : List (Option Addr)) (rev : Bool) : (ordOf ks vs rev).length = min ks.length vs.length := by
  unfold ordOf; split <;> simp

set_option maxRecDepth 20000 in
set_option maxHeartbeats 4000000 in
theorem zzTree_any (f : Sl → List UInt8) (K : Sl → Prop) (k v : Sl) (ks : List Sl) (vs : List (Option Addr)) (rev : Bool) (w : World) (h1 : Lst w k ks) (h2 : VL w v (vs.map Value.pointer)) (hn : v.n = k.n) (hn1 : k.n ≤ 4096) (hk : KOK f K w.heap.size w) (hm : ∀ s, K s → s.n ≤ maxLen) (hK : ∀ t ∈ ks, K t) :
    Calls Try.prog 21 #[k.v, v.v, .bool rev] w (TreePost f K (ordOf ks vs rev) w) := by
  obtain ⟨ka, kn, kc⟩ := k
  obtain ⟨va, vn, vc⟩ := v
  simp only at hn hn1
  subst hn
  change Calls Try.prog 21 #[.slice ka vn kc, .slice va vn vc, .bool rev] w (TreePost f K (ordOf ks vs rev) w)
  have e1 : ks.length = vn := h1.1
  have e2 : vs.length = vn := by have := h2.1; simpa using this
  have hol : (ordOf ks vs rev).length = vn := by rw [length_ordOf]; omega
  have H1 := hide h1; have H2 := hide h2; have HK := hide hk; have HM := hide hm; have HKE := hide hK; have HOL := hide hol; have E1 := hide e1; have E2 := hide e2
  clear h1 h2 hk hm hK hol e1 e2
  go_enter Try.func21, Try.ntmps21
  go_wp2_with fail
  obtain ⟨W1, hW1⟩ : ∃ W, W = w.alloc (.cells #[.pointer none, .pointer none, .pointer none, .slice none 0 0, .slice none 0 0, .int .i64 0] 82) := ⟨_, rfl⟩
  rw [← hW1]
  obtain ⟨eb, heb⟩ : ∃ eb, eb = w.heap.size := ⟨_, rfl⟩
  have hE1 : EdAt W1 eb none none Sl.nil Sl.nil 0 := by rw [hW1, heb]; exact heap_alloc_new w _
  have HF1 := hide (show Fill f K w W1 eb (ordOf ks vs rev) 0 ⟨[], none, []⟩ from ⟨ok_empty f K w.heap.size eb W1 (by omega) hE1, rfl, by rw [hW1]; exact (Fr.refl _ w).alloc _⟩)
  rw [← heb]
  have HEB := hide heb
  clear hW1 hE1 heb
  go_loopg [9] vn (fun gk v wr => ∃ (k : Nat) (T : Tr), gk + k = vn ∧ v = .int .i64 k ∧ Hid (Fill f K w wr eb (ordOf ks vs rev) k T))
  case atStart => exact ⟨0, _, rfl, rfl, HF1⟩
  case round =>
    obtain ⟨k, T, hgk, rfl, HF⟩ := hrel
    have hks : k ≤ vn := by omega
    by_cases hlt : k < vn
    · obtain ⟨i, hi, hio, hrev⟩ : ∃ i : Nat, i < vn ∧ Hid (∀ (h1 : i < ks.length) (h2 : i < vs.length), (ordOf ks vs rev)[k]? = some (ks[i], vs[i])) ∧ ((rev = false ∧ i = k) ∨ (rev = true ∧ (vn : Int) - 1 - (k : Int) = (i : Int))) := by
        have e1 := unhide E1; have e2 := unhide E2
        cases rev with
        | false =>
          refine ⟨k, hlt, hide (fun h1 h2 => ?_), .inl ⟨rfl, rfl⟩⟩
          unfold ordOf
          simp only [Bool.false_eq_true, if_false]
          exact List.getElem?_zip_eq_some (z := (_, _)).2 ⟨List.getElem?_eq_getElem h1, List.getElem?_eq_getElem h2⟩
        | true =>
          refine ⟨vn - 1 - k, by omega, hide (fun h1 h2 => ?_), .inr ⟨rfl, by omega⟩⟩
          unfold ordOf
          simp only [if_true]
          have hz : (ks.zip vs).length = vn := by simp; omega
          rw [List.getElem?_reverse (by omega), hz]
          exact List.getElem?_zip_eq_some (z := (_, _)).2 ⟨List.getElem?_eq_getElem h1, List.getElem?_eq_getElem h2⟩
      obtain ⟨b1, o1, y, rfl, hc1, g1⟩ := (unhide H1).at hi
      obtain ⟨b2, o2, u, rfl, hc2, k1⟩ := (unhide H2).at hi
      obtain ⟨x, hx, rfl⟩ : ∃ x, vs[i]? = some x ∧ Value.pointer x = u := by
        rw [List.getElem?_map] at k1
        obtain ⟨x, h1, h2⟩ := Option.map_eq_some_iff.1 k1
        exact ⟨x, h1, h2⟩
      have hcx : wr.cell? ⟨b1, o1 + i, none⟩ = some (.slice y.a y.n y.c) := ((unhide HF).fr.cell (p := ⟨b1, o1 + i, none⟩) (World.block_lt_of_cell? w _ hc1) (fun e => e)).trans hc1
      have hcy : wr.cell? ⟨b2, o2 + i, none⟩ = some (.pointer x) := ((unhide HF).fr.cell (p := ⟨b2, o2 + i, none⟩) (World.block_lt_of_cell? w _ hc2) (fun e => e)).trans hc2
      have hord : Hid ((ordOf ks vs rev)[k]? = some (y, x)) := hide (by
        obtain ⟨p1, q1⟩ := List.getElem?_eq_some_iff.1 g1
        obtain ⟨p2, q2⟩ := List.getElem?_eq_some_iff.1 hx
        rw [(unhide hio) p1 p2, q1, q2])
      have hKy := unhide HKE y (List.mem_of_getElem? g1)
      have HFD := hide ((unhide HF).keep (w' := wr.drew) ((Fr.refl _ wr).drew))
      have HSET := hide (set_any f K w.heap.size eb y x wr.drew T (unhide HFD).ok ((unhide HK).fr (unhide HFD).fr (fun _ _ e => e)) (unhide HM) hKy (by rw [(unhide HF).es]; have := length_insAll (f := f) ((ordOf ks vs rev).take k) []; simp at this; omega))
      clear hc1 hc2 g1 k1 hKy hio hx
      rcases hrev with ⟨rfl, rfl⟩ | ⟨rfl, hrev⟩
      · go_wp2_with fail
        go_region_with (go_at_call 44; refine (unhide HSET).mono ?_; rintro e W3 hp; obtain ⟨⟨v1, v2, rfl⟩, T', hF'⟩ := (unhide HFD).set hp (unhide hord); have HF3 := hide hF'; clear hp hF')
        all_goals
          go_wp2_with fail
          go_roundg (gk - 1)
          case measure => omega
          case rel => exact ⟨i + 1, T', by omega, by go_num, HF3⟩
      · go_wp2_with fail
        go_region_with (go_at_call 44; refine (unhide HSET).mono ?_; rintro e W3 hp; obtain ⟨⟨v1, v2, rfl⟩, T', hF'⟩ := (unhide HFD).set hp (unhide hord); have HF3 := hide hF'; clear hp hF')
        all_goals
          go_wp2_with fail
          go_roundg (gk - 1)
          case measure => omega
          case rel => exact ⟨k + 1, T', by omega, by go_num, HF3⟩
    · have hks2 : k = vn := by omega
      have HKS := hide hks2
      clear hks2 hks hgk
      go_wp2_with fail
      go_ret
      have F := unhide HF
      exact ⟨eb, T, rfl, F.ok, by rw [F.es, unhide HKS, List.take_of_length_le (by rw [unhide HOL]; exact Nat.le_refl _)], F.fr⟩
end Go.Proofs.Qxb6615626a.BV
