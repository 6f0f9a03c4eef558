/-
  setNear (V by the namespace).
-/
import Derived.Test.Qxb6615626aCoreB
import Derived.Test.Qxb6615626aLb
namespace Go.Proofs.Qxb6615626a.BV
open Go.RowKit
set_option linter.unusedVariables false

theorem seek_is (nb kb kc : Nat) (ks : List Sl) (f : Sl → List UInt8) (key : Sl) (p : Nat) (w : World) (hlen : ks.length ≤ 100000) (hp : p ≤ 100000)
    (hn : w.cell? ⟨nb, 2, none⟩ = some (.slice (some ⟨kb, 0, none⟩) ks.length kc))
    (hk : ∀ i (h : i < ks.length), w.cell? ⟨kb, i, none⟩ = some ks[i].v)
    (hf : ∀ s, s ∈ ks → Byt w s (f s)) (hkey : Byt w key (f key)) (ha : Asc f ks) :
    Calls Try.prog 100 #[.pointer (some ⟨nb, 0, none⟩), key.v, .int .i64 p] w fun e w' => e = .returned (.tuple #[.int .i64 (lb f ks (f key)), .bool (fnd f ks (f key))]) ∧ ∃ n, w' = w.drewN n :=
  (seek_any nb kb kc ks f key p w hlen hp hn hk hf hkey ha).mono fun e w' ⟨i, he, hi, hw⟩ => by
    have := hi.unique (lb_LB ha (f key)); subst this; exact ⟨he, hw⟩

theorem find_is (nb kb kc : Nat) (ks : List Sl) (f : Sl → List UInt8) (key : Sl) (w : World) (hlen : ks.length ≤ 100000)
    (hn : w.cell? ⟨nb, 2, none⟩ = some (.slice (some ⟨kb, 0, none⟩) ks.length kc))
    (hk : ∀ i (h : i < ks.length), w.cell? ⟨kb, i, none⟩ = some ks[i].v)
    (hf : ∀ s, s ∈ ks → Byt w s (f s)) (hkey : Byt w key (f key)) (ha : Asc f ks) :
    Calls Try.prog 104 #[.pointer (some ⟨nb, 0, none⟩), key.v] w fun e w' => e = .returned (.tuple #[.int .i64 (lb f ks (f key)), .bool (fnd f ks (f key))]) ∧ ∃ n, w' = w.drewN n :=
  (find_any nb kb kc ks f key w hlen hn hk hf hkey ha).mono fun e w' ⟨i, he, hi, hw⟩ => by
    have := hi.unique (lb_LB ha (f key)); subst this; exact ⟨he, hw⟩

theorem quiet_two {P : Program} {g : FuncId} {args : Array Value} {w : World} {a b : Nat} {v : Value}
    (h : Calls P g args (w.drewN (a + b)) fun e w' => e = .returned v ∧ ∃ m, w' = (w.drewN (a + b)).drewN m) : Calls P g args (w.drewN (a + b)) fun e w'' => e = .returned v ∧ ∃ n, w'' = w.drewN (a + n) :=
  h.mono fun _ _ ⟨he, m, hm⟩ => ⟨he, b + m, by rw [hm, World.drewN_drewN, Nat.add_assoc]⟩

/-- the tree as the editor holds it -/
structure Ok (f : Sl → List UInt8) (K : Sl → Prop) (B : Nat) (w : World) (eb : Nat) (T : Tr) : Prop where
  core : Core f K B w eb T
  full : ∀ L ∈ T.ls, L.es.length ≤ 256
  ed : ∃ nl lo hi p, EdAt w eb T.root nl lo hi p ∧ p ≤ 1000 ∧ (nl = none ∨ ∃ (j : Nat) (L : Lf), T.ls[j]? = some L ∧ nl = some ⟨L.nb, 0, none⟩ ∧ lo = loOf T.seps j Sl.nil ∧ hi = hiOf T.seps j Sl.nil)

theorem Core.of_heap {f : Sl → List UInt8} {K : Sl → Prop} {B : Nat} {w w' : World} {eb : Nat} {T : Tr} (h : Core f K B w eb T) (e : w'.heap = w.heap) : Core f K B w' eb T := by
  refine ⟨fun L hL => (h.lf L hL).of_heap e, ?_, h.pw, h.ne, h.low, by rw [e]; exact h.elt, h.kk, h.sk, h.asc, h.sl, h.sr, h.sa⟩
  rcases h.sh with g | ⟨I, h1, h2, h3⟩
  · exact .inl g
  · exact .inr ⟨I, h1, ⟨h2.node.of_block (by rw [e]), h2.keys.of_block (by rw [e]), h2.kids.of_block (by rw [e]), h2.rk, h2.rc, h2.kc⟩, h3⟩

theorem Ok.of_heap {f : Sl → List UInt8} {K : Sl → Prop} {B : Nat} {w w' : World} {eb : Nat} {T : Tr} (h : Ok f K B w eb T) (e : w'.heap = w.heap) : Ok f K B w' eb T := by
  obtain ⟨nl, lo, hi, p, h1, h2⟩ := h.ed
  exact ⟨h.core.of_heap e, h.full, nl, lo, hi, p, h1.of_block (by rw [e]), h2⟩

/-- a separator, or nil where there is none, is known -/
theorem known_bound {f : Sl → List UInt8} {K : Sl → Prop} {B : Nat} {w : World} (hk : KOK f K B w) (ss : List Sl) (hs : ∀ s ∈ ss, K s ∧ f s ≠ []) (o : Option Sl) (ho : o = none ∨ ∃ s ∈ ss, o = some s) :
    Byt w (o.getD Sl.nil) ((o.map f).getD []) := by
  rcases ho with rfl | ⟨s, hm, rfl⟩
  · exact Byt.nil w
  · exact (hk s (hs s hm).1).1

/-- the bounds beside leaf j, as bytes -/
def loB (f : Sl → List UInt8) (ss : List Sl) (j : Nat) : List UInt8 := if 0 < j then ((ss[j - 1]?).map f).getD [] else []
def hiB (f : Sl → List UInt8) (ss : List Sl) (j : Nat) : List UInt8 := ((ss[j]?).map f).getD []

theorem byt_lo {f : Sl → List UInt8} {K : Sl → Prop} {B : Nat} {w : World} (hk : KOK f K B w) (ss : List Sl) (hs : ∀ s ∈ ss, K s ∧ f s ≠ []) (j : Nat) : Byt w (loOf ss j Sl.nil) (loB f ss j) := by
  unfold loOf loB
  by_cases h : 0 < j
  · rw [if_pos h, if_pos h]
    refine known_bound hk ss hs _ ?_
    cases e : ss[j - 1]? with
    | none => exact .inl rfl
    | some s => exact .inr ⟨s, List.mem_of_getElem? e, rfl⟩
  · rw [if_neg h, if_neg h]; exact Byt.nil w
theorem byt_hi {f : Sl → List UInt8} {K : Sl → Prop} {B : Nat} {w : World} (hk : KOK f K B w) (ss : List Sl) (hs : ∀ s ∈ ss, K s ∧ f s ≠ []) (j : Nat) : Byt w (hiOf ss j Sl.nil) (hiB f ss j) := by
  unfold hiOf hiB
  refine known_bound hk ss hs _ ?_
  cases e : ss[j]? with
  | none => exact .inl rfl
  | some s => exact .inr ⟨s, List.mem_of_getElem? e, rfl⟩

/-- a key within the bounds of leaf j has its place there -/
theorem place_of_within {f : Sl → List UInt8} {K : Sl → Prop} {B : Nat} {w : World} {eb : Nat} {T : Tr} (h : Core f K B w eb T) (k : List UInt8) (j : Nat) (L : Lf) (hj : T.ls[j]? = some L) (hw : within k (loB f T.seps j) (hiB f T.seps j) = true) :
    Place f T k (T.ls.take j) L (T.ls.drop (j + 1)) := by
  have hjl : j < T.ls.length := (List.getElem?_eq_some_iff.1 hj).1
  have hlen : (T.ls.take j).length = j := by rw [List.length_take]; omega
  have hl := h.seps_len (fun e => by rw [e] at hjl; simp at hjl)
  unfold within at hw
  rw [Bool.and_eq_true, Bool.or_eq_true, Bool.or_eq_true] at hw
  refine ⟨?_, ?_, ?_⟩
  · have : T.ls[j] = L := by rw [List.getElem?_eq_getElem hjl] at hj; exact Option.some.inj hj
    rw [← this, ← List.drop_eq_getElem_cons hjl, List.take_append_drop]
  · intro i s hs hi
    rw [hlen] at hi
    have hlast : j - 1 < T.seps.length := by omega
    have e : loB f T.seps j = f T.seps[j - 1] := by unfold loB; rw [if_pos (by omega), List.getElem?_eq_getElem hlast]; rfl
    have hne : (loB f T.seps j).isEmpty = false := by
      rw [e]
      have := (h.sk _ (List.getElem_mem hlast)).2
      cases hf : f T.seps[j - 1] with
      | nil => exact absurd hf this
      | cons a l => rfl
    rw [hne] at hw
    have h1 : 0 ≤ Pl.cmp k (loB f T.seps j) := by simpa using hw.1
    rw [e, Pl.cmp_nonneg_iff] at h1
    have his : i < T.seps.length := (List.getElem?_eq_some_iff.1 hs).1
    have e2 : T.seps[i] = s := by rw [List.getElem?_eq_getElem his] at hs; exact Option.some.inj hs
    have h2 := h.sa.not_lt i (j - 1) hlast (by omega)
    rw [e2] at h2
    exact Pl.le_trans h2 h1
  · intro i s hs hi
    rw [hlen] at hi
    have his : i < T.seps.length := (List.getElem?_eq_some_iff.1 hs).1
    have hjs : j < T.seps.length := by omega
    have e : hiB f T.seps j = f T.seps[j] := by unfold hiB; rw [List.getElem?_eq_getElem hjs]; rfl
    have hne : (hiB f T.seps j).isEmpty = false := by
      rw [e]
      have := (h.sk _ (List.getElem_mem hjs)).2
      cases hf : f T.seps[j] with
      | nil => exact absurd hf this
      | cons a l => rfl
    rw [hne] at hw
    have h1 : Pl.cmp k (hiB f T.seps j) < 0 := by simpa using hw.2
    rw [e] at h1
    have e2 : T.seps[i] = s := by rw [List.getElem?_eq_getElem his] at hs; exact Option.some.inj hs
    have h2 := h.sa.not_lt j i his hi
    rw [e2] at h2
    exact Pl.lt_of_lt_of_le h1 h2

/-- what setNear leaves: nothing done, or the entry stored -/
def NearPost (f : Sl → List UInt8) (K : Sl → Prop) (B : Nat) (eb : Nat) (T : Tr) (key : Sl) (x : Option Addr) (w : World) (e : Ending) (w' : World) : Prop :=
  (e = .returned (.tuple #[.pointer none, .bool false, .bool false]) ∧ ∃ n, w' = w.drewN n) ∨
  ((∃ v1 v2, e = .returned (.tuple #[v1, v2, .bool true])) ∧ ∃ T', Ok f K B w' eb T' ∧ T'.es = ins f key x T.es ∧ Fr (T.own eb) w w' ∧ (∀ k, T'.own eb k → T.own eb k ∨ w.heap.size ≤ k))

set_option maxHeartbeats 1000000 in
theorem setNear_none (f : Sl → List UInt8) (K : Sl → Prop) (B : Nat) (eb : Nat) (T : Tr) (key : Sl) (x : Option Addr) (w : World) (hc2 : w.cell? ⟨eb, 2, none⟩ = some (.pointer none)) :
    Calls Try.prog 69 #[.pointer (some ⟨eb, 0, none⟩), key.v, Value.pointer x] w (NearPost f K B eb T key x w) := by
  go_enter Try.func69, Try.ntmps69
  go_wp2_with fail
  go_quiet ((go_at_call 99; exact Calls.quiet_of_same (holds_nil eb 2 key _ hc2)))
  go_wp2_with fail
  go_ret3
  exact .inl ⟨rfl, nq, rfl⟩

set_option maxHeartbeats 1000000 in
theorem setNear_out (f : Sl → List UInt8) (K : Sl → Prop) (B : Nat) (eb : Nat) (T : Tr) (a : Addr) (lo hi key : Sl) (k l h : List UInt8) (x : Option Addr) (w : World) (hc2 : w.cell? ⟨eb, 2, none⟩ = some (.pointer (some a)))
    (hc3 : w.cell? ⟨eb, 3, none⟩ = some (.slice lo.a lo.n lo.c)) (hc4 : w.cell? ⟨eb, 4, none⟩ = some (.slice hi.a hi.n hi.c)) (bk : Byt w key k) (bl : Byt w lo l) (bh : Byt w hi h) (hl : lo.n ≤ maxLen) (hh : hi.n ≤ maxLen)
    (hw : within k l h = false) :
    Calls Try.prog 69 #[.pointer (some ⟨eb, 0, none⟩), key.v, Value.pointer x] w (NearPost f K B eb T key x w) := by
  have HH := fun n : Nat => hide (holds_some eb 2 a key lo hi k l h (w.drewN n) hc2 hc3 hc4 (bk.drewN n) (bl.drewN n) (bh.drewN n) hl hh)
  rw [hw] at HH
  clear hc3 hc4 bk bl bh hl hh hw
  go_enter Try.func69, Try.ntmps69
  go_wp2_with fail
  go_quiet ((go_at_call 99; exact Calls.quiet_of_same (unhide (HH _))))
  go_wp2_with fail
  go_ret3
  exact .inl ⟨rfl, nq, rfl⟩

theorem kss_eq (es : List (Sl × Option Addr)) : kss es = es.map fun e => e.1 := rfl

theorem drop_len {A : List Lf} {L : Lf} {C : List Lf} {j : Nat} {ls : List Lf} (h : ls[j]? = some L) : (ls.take j).length = j := by
  have := (List.getElem?_eq_some_iff.1 h).1
  rw [List.length_take]; omega

/-- the tree behind a change of one leaf, all put together -/
theorem Ok.repl {f : Sl → List UInt8} {K : Sl → Prop} {B : Nat} {w w' : World} {eb : Nat} {T : Tr} {key : Sl} {A : List Lf} {L L' : Lf} {C : List Lf} {x : Option Addr}
    (h : Ok f K B w eb T) (P : Place f T (f key) A L C) (hK : K key) (hL : L'.At w') (hnb : L'.nb = L.nb) (hes : L'.es = Qxb6615626a.ins f key x L.es)
    (hfr : Fr (fun k => L.own k ∨ k = eb) w w') (hown : ∀ k, L'.own k → L.own k ∨ w.heap.size ≤ k) (hfull : L'.es.length ≤ 256)
    (nl : Option Addr) (lo hi : Sl) (p : Nat) (hE : EdAt w' eb T.root nl lo hi p) (hp : p ≤ 1000) (hnl : nl = some ⟨L.nb, 0, none⟩ ∧ lo = loOf T.seps A.length Sl.nil ∧ hi = hiOf T.seps A.length Sl.nil) :
    ∃ T', Ok f K B w' eb T' ∧ T'.es = Qxb6615626a.ins f key x T.es ∧ Fr (T.own eb) w w' ∧ (∀ k, T'.own eb k → T.own eb k ∨ w.heap.size ≤ k) := by
  obtain ⟨c1, c2, c3⟩ := h.core.repl P hK hL hnb hes hfr hown
  have hLm : L ∈ T.ls := by rw [P.ls]; simp
  refine ⟨_, ⟨c1, ?_, nl, lo, hi, p, ?_, hp, .inr ⟨A.length, L', ?_, ?_, hnl.2.1, hnl.2.2⟩⟩, c2, ?_, c3⟩
  · intro M hM
    rcases List.mem_append.1 hM with e | e
    · exact h.full M (by rw [P.ls]; simp [e])
    · rcases List.mem_cons.1 e with rfl | e
      · exact hfull
      · exact h.full M (by rw [P.ls]; simp [e])
  · have : Tr.root { T with ls := A ++ L' :: C } = T.root := by
      unfold Tr.root
      cases hi : T.inn with
      | some I => rfl
      | none =>
        rw [P.ls]
        cases A with
        | nil => simp [hnb]
        | cons a A => rfl
    rw [this]; exact hE
  · show (A ++ L' :: C)[A.length]? = _
    rw [mid?, if_neg (by omega), if_pos rfl]
  · rw [hnb]; exact hnl.1
  · exact hfr.mono (fun k _ hk => by
      rcases hk with e | e
      · exact .inr (.inl ⟨L, hLm, e⟩)
      · exact .inl e)

set_option maxHeartbeats 1000000 in
theorem setNear_in (f : Sl → List UInt8) (K : Sl → Prop) (B : Nat) (eb : Nat) (T : Tr) (L : Lf) (j : Nat) (key : Sl) (x : Option Addr) (w : World) (h : Ok f K B w eb T) (hk : KOK f K B w) (hK : K key) (p : Nat) (hp : p ≤ 1000) (hj : T.ls[j]? = some L)
    (hE : EdAt w eb T.root (some ⟨L.nb, 0, none⟩) (loOf T.seps j Sl.nil) (hiOf T.seps j Sl.nil) p)
    (hll : (loOf T.seps j Sl.nil).n ≤ maxLen) (hhl : (hiOf T.seps j Sl.nil).n ≤ maxLen)
    (hw : within (f key) (loB f T.seps j) (hiB f T.seps j) = true) :
    Calls Try.prog 69 #[.pointer (some ⟨eb, 0, none⟩), key.v, Value.pointer x] w (NearPost f K B eb T key x w) := by
  have hLm : L ∈ T.ls := List.mem_of_getElem? hj
  have hL := h.core.lf L hLm
  have PL := place_of_within h.core (f key) j L hj hw
  have hjl : (T.ls.take j).length = j := by have := (List.getElem?_eq_some_iff.1 hj).1; rw [List.length_take]; omega
  have hlen := h.full L hLm
  have hasc : AscE f L.es := by
    have := h.core.asc; unfold Tr.es at this; rw [PL.ls, List.flatMap_append, List.flatMap_cons, ← List.append_assoc] at this
    exact asc_es_mid this
  have hne := h.core.ne L hLm
  have HH := fun n : Nat => hide (holds_some eb 2 ⟨L.nb, 0, none⟩ key (loOf T.seps j Sl.nil) (hiOf T.seps j Sl.nil) (f key) (loB f T.seps j) (hiB f T.seps j) (w.drewN n) hE.c2 hE.c3 hE.c4 ((hk key hK).1.drewN n) ((byt_lo hk T.seps h.core.sk j).drewN n) ((byt_hi hk T.seps h.core.sk j).drewN n) hll hhl)
  rw [hw] at HH
  have HSK := fun n : Nat => hide (seek_is L.nb L.kb L.kc (kss L.es) f key p (w.drewN n) (by rw [length_kss]; omega) (by omega) (by rw [length_kss]; exact hL.node.c2) hL.key
    (fun s hs => by obtain ⟨e, he, rfl⟩ := List.mem_map.1 hs; exact (hk _ (h.core.kk L hLm e he)).1) (hk key hK).1 hasc.keys)
  have hlb := lb_LB (f := f) hasc.keys (f key)
  have c1 := hE.c1; have c2 := hE.c2; have c5 := hE.c5
  have d0 := hL.node.c0; have d2 := hL.node.c2
  obtain ⟨i, hi⟩ : ∃ i, i = lb f (kss L.es) (f key) := ⟨_, rfl⟩
  obtain ⟨b, hb⟩ : ∃ b, b = fnd f (kss L.es) (f key) := ⟨_, rfl⟩
  rw [← hi, ← hb] at HSK
  have hlb' : LB f (L.es.map fun e => e.1) (f key) i := by rw [hi]; exact hlb
  have hb' : ((L.es.map fun e => e.1)[i]?.any fun s => f s == f key) = b := by rw [hb, hi]; rfl
  have hil : i ≤ L.es.length := by simpa using hlb'.le
  have HO := hide h; have HP := hide PL; have HLE := hide hjl; have HA := hide hasc; have HLB := hide hlb'; have HB := hide hb'; have HL := hide hL; have HE := hide hE
  clear h PL hjl hasc hlb hlb' hb' hi hb hw hll hhl hk hj hL hE
  go_enter Try.func69, Try.ntmps69
  go_wp2_with fail
  go_quiet ((go_at_call 99; exact Calls.quiet_of_same (unhide (HH _))))
  go_wp2_with fail
  go_quiet ((go_at_call 100; exact quiet_two (unhide (HSK _))))
  cases b with
  | true =>
    obtain ⟨hlt, heq⟩ := (found_iff key L.es i hil).1 (unhide HB)
    have e1 : Hid (L.es.set i (L.es[i].1, x) = ins f key x L.es) := hide (ins_found key x L.es i (unhide HLB) hlt heq).symm
    clear heq
    go_wp2_with fail
    refine (put_found L i key x _ (by exact (unhide HL).of_heap rfl) (by omega) hlt).mono ?_
    rintro e w2 ⟨⟨v, rfl⟩, hL2, hF2⟩
    have hE2 := (unhide HE).fr (w' := w2) (F := L.own) ⟨hF2.os, hF2.tape, hF2.output, hF2.size, hF2.block⟩ hne
    have q5 := hE2.c5; have f5 := hE2.fz 5
    have HL2 := hide hL2; have HF2 := hide hF2; have HE2 := hide hE2
    clear hL2 hF2 hE2 c1 c2 c5 d0 d2
    go_wp2_with fail
    go_ret3
    refine .inr ⟨⟨_, _, rfl⟩, ?_⟩
    have f1 := unhide HF2
    have f2 : Fr (fun k => L.own k ∨ k = eb) w w2 := ⟨f1.os, f1.tape, f1.output, f1.size, fun k hk hn => f1.block k hk (fun h => hn (.inl h))⟩
    refine (unhide HO).repl (L' := { L with es := L.es.set i (L.es[i].1, x) }) (unhide HP) hK ?_ rfl (unhide e1) (f2.setCell ⟨eb, 5, none⟩ _ (fun _ => .inr rfl)) (fun k hk => .inl hk) (by simp; omega) _ _ _ i ((unhide HE2).set5 i) (by omega) ⟨rfl, ?_, ?_⟩
    · exact (unhide HL2).fr (F := fun k => k = eb) ((Fr.refl _ w2).setCell ⟨eb, 5, none⟩ _ (fun _ => rfl)) (fun k hk he => by subst he; exact hne hk)
    · rw [unhide HLE]
    · rw [unhide HLE]
  | false =>
    have e1 : Hid (L.es.take i ++ (key, x) :: L.es.drop i = ins f key x L.es) := hide (ins_new key x L.es i (unhide HLB) (unhide HB) (unhide HA)).symm
    have HLN := hide hlen
    have HIL := hide hil
    clear hlen hil
    by_cases hfl : 256 ≤ L.es.length
    · have hd : (256 : Int) ≤ (L.es.length : Int) := by omega
      clear hfl
      go_wp2_with fail
      go_ret3
      exact .inl ⟨rfl, _, rfl⟩
    · have hd : decide ((256 : Int) ≤ (L.es.length : Int)) = false := by rw [decide_eq_false_iff_not]; omega
      have HFL := hide hfl
      clear hfl c1 d0 HH HSK
      go_wp2_with fail
      have hfl := unhide HFL
      have hil := unhide HIL
      refine (put_new L i key x _ (by exact (unhide HL).of_heap rfl) (by omega) hil).mono ?_
      rintro e w2 ⟨⟨v, rfl⟩, L', hL2, hnb, hes, hF2, hown⟩
      have hE2 := (unhide HE).fr (w' := w2) (F := L.own) ⟨hF2.os, hF2.tape, hF2.output, hF2.size, hF2.block⟩ hne
      have q5 := hE2.c5; have f5 := hE2.fz 5
      have hlt := (unhide HE).lt
      have HL2 := hide hL2; have HF2 := hide hF2; have HE2 := hide hE2; have HNB := hide hnb; have HES := hide hes; have HOWN := hide hown
      clear hL2 hF2 hE2 hnb hes hown c2 c5 d2 hfl hil hd
      go_wp2_with fail
      go_ret3
      refine .inr ⟨⟨_, _, rfl⟩, ?_⟩
      have f1 := unhide HF2
      have f2 : Fr (fun k => L.own k ∨ k = eb) w w2 := ⟨f1.os, f1.tape, f1.output, f1.size, fun k hk hn => f1.block k hk (fun h => hn (.inl h))⟩
      have hne' : ¬ L'.own eb := fun hk => by
        rcases unhide HOWN eb hk with e | e
        · exact hne e
        · have : w.heap.size ≤ eb := e
          omega
      have hlen' : L'.es.length ≤ 256 := by have := unhide HFL; rw [unhide HES, len_ins _ _ (unhide HIL)]; omega
      have hlen := unhide HLN
      have hil := unhide HIL
      refine (unhide HO).repl (unhide HP) hK ?_ (unhide HNB) ((unhide HES).trans (unhide e1)) (f2.setCell ⟨eb, 5, none⟩ _ (fun _ => .inr rfl)) (unhide HOWN) hlen' _ _ _ i ((unhide HE2).set5 i) (by omega) ⟨rfl, ?_, ?_⟩
      · exact (unhide HL2).fr (F := fun k => k = eb) ((Fr.refl _ w2).setCell ⟨eb, 5, none⟩ _ (fun _ => rfl)) (fun k hk he => by subst he; exact hne' hk)
      · rw [unhide HLE]
      · rw [unhide HLE]

/-- setNear, whatever the finger points at -/
theorem setNear_any (f : Sl → List UInt8) (K : Sl → Prop) (B : Nat) (eb : Nat) (T : Tr) (key : Sl) (x : Option Addr) (w : World) (h : Ok f K B w eb T) (hk : KOK f K B w) (hm : ∀ s, K s → s.n ≤ maxLen) (hK : K key) :
    Calls Try.prog 69 #[.pointer (some ⟨eb, 0, none⟩), key.v, Value.pointer x] w (NearPost f K B eb T key x w) := by
  obtain ⟨nl, lo, hi, p, hE, hp, hn⟩ := h.ed
  rcases hn with rfl | ⟨j, L, hj, rfl, rfl, rfl⟩
  · exact setNear_none f K B eb T key x w hE.c2
  · have hll : (loOf T.seps j Sl.nil).n ≤ maxLen := by
      unfold loOf
      split
      · cases e : T.seps[j - 1]? with
        | none => exact Nat.zero_le _
        | some s => exact hm s (h.core.sk s (List.mem_of_getElem? e)).1
      · exact Nat.zero_le _
    have hhl : (hiOf T.seps j Sl.nil).n ≤ maxLen := by
      unfold hiOf
      cases e : T.seps[j]? with
      | none => exact Nat.zero_le _
      | some s => exact hm s (h.core.sk s (List.mem_of_getElem? e)).1
    cases hw : within (f key) (loB f T.seps j) (hiB f T.seps j) with
    | true => exact setNear_in f K B eb T L j key x w h hk hK p hp hj hE hll hhl hw
    | false => exact setNear_out f K B eb T _ _ _ key _ _ _ x w hE.c2 hE.c3 hE.c4 (hk key hK).1 (byt_lo hk T.seps h.core.sk j) (byt_hi hk T.seps h.core.sk j) hll hhl hw

end Go.Proofs.Qxb6615626a.BV
