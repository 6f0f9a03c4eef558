/-
  RangeSet.Each, ZZRangeSetEach.
-/
import Derived.Test.Qxb6615626aOkfA
import Derived.Test.Qxb6615626aAcc
import Derived.Deep.LoopGhost
namespace Go.Proofs.Qxb6615626a.BA
open Go.RowKit
set_option linter.unusedVariables false

/-- a RangeSet's block -/
def RsAt (w : World) (rb eb : Nat) (tail : Sl) (op : Bool) : Prop := ∃ n lo hi, w.heap[rb]? = some (.cells #[.pointer (some ⟨eb, 0, none⟩), .slice tail.a tail.n tail.c, .bool op, n, lo, hi] 112 (0, 0))

theorem RsAt.c0 {w : World} {rb eb : Nat} {tail : Sl} {op : Bool} (h : RsAt w rb eb tail op) : w.cell? ⟨rb, 0, none⟩ = some (.pointer (some ⟨eb, 0, none⟩)) := by obtain ⟨n, lo, hi, h⟩ := h; simp [World.cell?, h]
theorem RsAt.c1 {w : World} {rb eb : Nat} {tail : Sl} {op : Bool} (h : RsAt w rb eb tail op) : w.cell? ⟨rb, 1, none⟩ = some (.slice tail.a tail.n tail.c) := by obtain ⟨n, lo, hi, h⟩ := h; simp [World.cell?, h]
theorem RsAt.c2 {w : World} {rb eb : Nat} {tail : Sl} {op : Bool} (h : RsAt w rb eb tail op) : w.cell? ⟨rb, 2, none⟩ = some (.bool op) := by obtain ⟨n, lo, hi, h⟩ := h; simp [World.cell?, h]
theorem RsAt.lt {w : World} {rb eb : Nat} {tail : Sl} {op : Bool} (h : RsAt w rb eb tail op) : rb < w.heap.size := by obtain ⟨n, lo, hi, h⟩ := h; exact (Array.getElem?_eq_some_iff.1 h).1
theorem RsAt.fr {F : Nat → Prop} {w w' : World} {rb eb : Nat} {tail : Sl} {op : Bool} (h : RsAt w rb eb tail op) (hf : Fr F w w') (hn : ¬ F rb) : RsAt w' rb eb tail op := by
  have hl := h.lt
  obtain ⟨n, lo, hi, h⟩ := h; exact ⟨n, lo, hi, by rw [hf.block rb hl hn]; exact h⟩

/-- how many ranges a yield that answers false from stop on is handed, of n -/
def handed (n : Nat) (stop : Int) : Nat := if n = 0 then 0 else if stop < 1 then 1 else min n stop.toNat
def saidAll (n : Nat) (stop : Int) : Bool := decide (n = 0 ∨ (n : Int) < stop)

theorem handed_stop {n p : Nat} {stop : Int} (hp : p < n) (h1 : p = 0 ∨ (p : Int) < stop) (h2 : ¬ (p : Int) + 1 < stop) : handed n stop = p + 1 ∧ saidAll n stop = false := by
  unfold handed saidAll
  constructor
  · rw [if_neg (by omega)]
    by_cases h : stop < 1
    · rw [if_pos h]; omega
    · rw [if_neg h]; omega
  · rw [decide_eq_false_iff_not]; omega
theorem handed_all {n : Nat} {stop : Int} (h1 : n = 0 ∨ (n : Int) < stop) : handed n stop = n ∧ saidAll n stop = true := by
  unfold handed saidAll
  constructor
  · by_cases h : n = 0
    · rw [if_pos h, h]
    · rw [if_neg h, if_neg (by omega)]; omega
  · rw [decide_eq_true_iff]; omega

theorem CurAt.norm {w : World} {cb g : Nat} {T : Tr} {p : Nat} (h : CurAt w cb g T p) : ∃ g', (g' = g ∨ g' = cb) ∧ g' < w.heap.size ∧ CurAt w cb g' T p := by
  cases h with
  | done a c h hp => exact ⟨cb, .inr rfl, h.lt, .done a c h hp⟩
  | one cap L hi hl hp h => exact ⟨g, .inl rfl, h.row.lt, .one cap L hi hl hp h⟩
  | two cap I A L C i hi hl hp hlt h => exact ⟨g, .inl rfl, h.row.lt, .two cap I A L C i hi hl hp hlt h⟩

/-- all that Each's loop works on -/
structure EachI (w0 w : World) (N cb gc : Nat) (T : Tr) (p b1 g1 b2 g2 b3 rb eb : Nat) (tail : Sl) (op : Bool) (stop : Int) (xs ys : List Value) : Prop where
  cur : CurAt w cb gc T p
  rd : Rd w T
  a1 : Acc w 22 23 b1 g1 xs
  a2 : Acc w 22 23 b2 g2 ys
  fr : Fr (fun k => N ≤ k) w0 w
  v3 : w.cell? ⟨b3, 0, none⟩ = some (.int .i64 stop)
  rs : RsAt w rb eb tail op
  cc : cb ≠ b1 ∧ cb ≠ g1 ∧ cb ≠ b2 ∧ cb ≠ g2 ∧ cb ≠ b3
  gc' : gc ≠ b1 ∧ gc ≠ g1 ∧ gc ≠ b2 ∧ gc ≠ g2 ∧ gc ≠ b3
  gg : g1 ≠ g2 ∧ g1 ≠ b2 ∧ g2 ≠ b1 ∧ b1 ≠ b2
  bb : b3 ≠ b1 ∧ b3 ≠ b2 ∧ b3 ≠ g1 ∧ b3 ≠ g2
  lo : N ≤ g1 ∧ N ≤ g2 ∧ N ≤ cb ∧ N ≤ gc ∧ N ≤ b1 ∧ N ≤ b2
  rl : rb < N
  ln : gc < w.heap.size
  tl : ∀ L ∈ T.ls, ∀ k, L.own k → k < N
  ti : ∀ I, T.inn = some I → ∀ k, I.own k → k < N

section
variable {w0 w w' : World} {N cb gc : Nat} {T : Tr} {p b1 g1 b2 g2 b3 rb eb : Nat} {tail : Sl} {op : Bool} {stop : Int} {xs ys : List Value}

theorem EachI.keep (h : EachI w0 w N cb gc T p b1 g1 b2 g2 b3 rb eb tail op stop xs ys) (hf : Fr (fun _ => False) w w') : EachI w0 w' N cb gc T p b1 g1 b2 g2 b3 rb eb tail op stop xs ys :=
  ⟨h.cur.fr hf (fun e => e) (fun e => e), h.rd.fr hf (fun _ _ _ _ e => e) (fun _ _ _ _ e => e), h.a1.fr hf (fun e => e) (fun e => e), h.a2.fr hf (fun e => e) (fun e => e), h.fr.trans hf (fun _ _ e => e.elim),
    (hf.cell (p := ⟨b3, 0, none⟩) (World.block_lt_of_cell? w _ h.v3) (fun e => e)).trans h.v3, h.rs.fr hf (fun e => e), h.cc, h.gc', h.gg, h.bb, h.lo, h.rl, Nat.lt_of_lt_of_le h.ln hf.size, h.tl, h.ti⟩

theorem ne_new {a g g' S : Nat} (h : g' = g ∨ S ≤ g') (hg : a ≠ g) (ha : a < S) : a ≠ g' := by
  rcases h with rfl | e
  · exact hg
  · exact fun h => by subst h; exact absurd ha (Nat.not_lt.2 e)
theorem le_new {N g g' S : Nat} (h : g' = g ∨ S ≤ g') (hg : N ≤ g) (ha : N ≤ S) : N ≤ g' := by
  rcases h with rfl | e
  · exact hg
  · exact Nat.le_trans ha e

theorem EachI.clo (h : EachI w0 w N cb gc T p b1 g1 b2 g2 b3 rb eb tail op stop xs ys) {s e : Value} {g1' g2' : Nat} (x1 : Acc w' 22 23 b1 g1' (xs ++ [s])) (x2 : Acc w' 22 23 b2 g2' (ys ++ [e]))
    (hf : Fr (fun k => k = b1 ∨ k = g1 ∨ k = b2 ∨ k = g2) w w') (h1 : g1' = g1 ∨ w.heap.size ≤ g1') (h2 : g2' = g2 ∨ w.heap.size ≤ g2') (h12 : g1' ≠ g2') :
    EachI w0 w' N cb gc T p b1 g1' b2 g2' b3 rb eb tail op stop (xs ++ [s]) (ys ++ [e]) := by
  obtain ⟨c1, c2, c3, c4, c5⟩ := h.cc
  obtain ⟨d1, d2, d3, d4, d5⟩ := h.gc'
  obtain ⟨e1, e2, e3, e4⟩ := h.gg
  obtain ⟨f1, f2, f3, f4⟩ := h.bb
  obtain ⟨l1, l2, l3, l4, l5, l6⟩ := h.lo
  have hcl := h.cur.lt
  have hb1 := h.a1.lt; have hb2 := h.a2.lt
  have hb3 : b3 < w.heap.size := World.block_lt_of_cell? w _ h.v3
  have hln := h.ln
  have hNs : N ≤ w.heap.size := Nat.le_trans l3 (Nat.le_of_lt hcl)
  have no : ∀ k, k < N → ¬ (k = b1 ∨ k = g1 ∨ k = b2 ∨ k = g2) := fun k hk e => by
    rcases e with e | e | e | e
    · exact absurd hk (by rw [e]; exact Nat.not_lt.2 l5)
    · exact absurd hk (by rw [e]; exact Nat.not_lt.2 l1)
    · exact absurd hk (by rw [e]; exact Nat.not_lt.2 l6)
    · exact absurd hk (by rw [e]; exact Nat.not_lt.2 l2)
  have fo : ∀ k, k ≠ b1 → k ≠ g1 → k ≠ b2 → k ≠ g2 → ¬ (k = b1 ∨ k = g1 ∨ k = b2 ∨ k = g2) := fun k x1 x2 x3 x4 e => e.elim x1 (fun e => e.elim x2 (fun e => e.elim x3 x4))
  refine ⟨h.cur.fr hf (fo _ c1 c2 c3 c4) (fo _ d1 d2 d3 d4), h.rd.fr hf (fun L hL k hk => no k (h.tl L hL k hk)) (fun I hI k hk => no k (h.ti I hI k hk)), x1, x2, h.fr.trans hf (fun k _ e => ?_),
    (hf.cell (p := ⟨b3, 0, none⟩) hb3 (fo _ f1 f3 f2 f4)).trans h.v3, h.rs.fr hf (no rb h.rl), ⟨c1, ne_new h1 c2 hcl, c3, ne_new h2 c4 hcl, c5⟩, ⟨d1, ne_new h1 d2 hln, d3, ne_new h2 d4 hln, d5⟩,
    ⟨h12, (ne_new h1 e2.symm hb2).symm, (ne_new h2 e3.symm hb1).symm, e4⟩, ⟨f1, f2, ne_new h1 f3 hb3, ne_new h2 f4 hb3⟩, ⟨le_new h1 l1 hNs, le_new h2 l2 hNs, l3, l4, l5, l6⟩, h.rl, Nat.lt_of_lt_of_le hln hf.size, h.tl, h.ti⟩
  rcases e with e | e | e | e
  · rw [e]; exact l5
  · rw [e]; exact l1
  · rw [e]; exact l6
  · rw [e]; exact l2

theorem EachI.next (h : EachI w0 w N cb gc T p b1 g1 b2 g2 b3 rb eb tail op stop xs ys) (hf : Fr (fun k => k = cb ∨ k = gc) w w') (hc : CurAt w' cb gc T (p + 1)) :
    EachI w0 w' N cb gc T (p + 1) b1 g1 b2 g2 b3 rb eb tail op stop xs ys := by
  obtain ⟨c1, c2, c3, c4, c5⟩ := h.cc
  obtain ⟨d1, d2, d3, d4, d5⟩ := h.gc'
  obtain ⟨l1, l2, l3, l4, l5, l6⟩ := h.lo
  have hb3 : b3 < w.heap.size := World.block_lt_of_cell? w _ h.v3
  have no : ∀ k, k < N → ¬ (k = cb ∨ k = gc) := fun k hk e => by
    rcases e with e | e
    · exact absurd hk (by rw [e]; exact Nat.not_lt.2 l3)
    · exact absurd hk (by rw [e]; exact Nat.not_lt.2 l4)
  have fo : ∀ k, cb ≠ k → gc ≠ k → ¬ (k = cb ∨ k = gc) := fun k x y e => e.elim (fun e => x e.symm) (fun e => y e.symm)
  exact ⟨hc, h.rd.fr hf (fun L hL k hk => no k (h.tl L hL k hk)) (fun I hI k hk => no k (h.ti I hI k hk)), h.a1.fr hf (fo _ c1 d1) (fo _ c2 d2), h.a2.fr hf (fo _ c3 d3) (fo _ c4 d4), h.fr.trans hf (fun k _ e => e.elim (fun e => by rw [e]; exact l3) (fun e => by rw [e]; exact l4)),
    (hf.cell (p := ⟨b3, 0, none⟩) hb3 (fo _ c5 d5)).trans h.v3, h.rs.fr hf (no rb h.rl), h.cc, h.gc', h.gg, h.bb, h.lo, h.rl, Nat.lt_of_lt_of_le h.ln hf.size, h.tl, h.ti⟩

theorem EachI.apart (h : EachI w0 w N cb gc T p b1 g1 b2 g2 b3 rb eb tail op stop xs ys) : Apart T cb gc := by
  obtain ⟨l1, l2, l3, l4, l5, l6⟩ := h.lo
  exact ⟨fun L hL k hk => by have := h.tl L hL k hk; omega, fun I hI k hk => by have := h.ti I hI k hk; omega⟩
end

/-- the ranges, in order -/
def ranges (T : Tr) (tail : Sl) (op : Bool) : List (Sl × Sl) := T.es.map (fun e => (e.2, e.1)) ++ if op then [(tail, Sl.nil)] else []

def v1s (R : List (Sl × Sl)) : List Value := R.map fun r => r.1.v
def v2s (R : List (Sl × Sl)) : List Value := R.map fun r => r.2.v

theorem ranges_take (T : Tr) (tail : Sl) (op : Bool) (p : Nat) (hp : p < T.es.length) : (ranges T tail op).take (p + 1) = (ranges T tail op).take p ++ [(T.es[p].2, T.es[p].1)] := by
  have hg : (ranges T tail op)[p]? = some (T.es[p].2, T.es[p].1) := by
    unfold ranges
    rw [List.getElem?_append_left (by simpa using hp), List.getElem?_map, List.getElem?_eq_getElem hp]; rfl
  obtain ⟨hl, he⟩ := List.getElem?_eq_some_iff.1 hg
  rw [List.take_succ_eq_append_getElem hl, he]

def EachPost (R : List (Sl × Sl)) (stop : Int) (N b1 b2 : Nat) (w : World) (e : Ending) (w' : World) : Prop :=
  e = .returned (.bool (saidAll R.length stop)) ∧ ∃ g1 g2, Acc w' 22 23 b1 g1 (v1s (R.take (handed R.length stop))) ∧ Acc w' 22 23 b2 g2 (v2s (R.take (handed R.length stop))) ∧ Fr (fun k => N ≤ k) w w'

set_option maxRecDepth 20000 in
set_option maxHeartbeats 4000000 in
theorem each_any (f : Sl → List UInt8) (K : Sl → Prop) (B : Nat) (eb : Nat) (T : Tr) (w : World) (rb : Nat) (tail : Sl) (op : Bool) (N b1 b2 b3 : Nat) (stop : Int)
    (h : Ok f K B w eb T) (hk : KOK f K B w) (hn : T.es.length ≤ 7000) (h0 : f Sl.nil = []) (hrs : RsAt w rb eb tail op) (a1 : Acc w 22 23 b1 b1 []) (a2 : Acc w 22 23 b2 b2 []) (v3 : w.cell? ⟨b3, 0, none⟩ = some (.int .i64 stop))
    (h12 : b1 ≠ b2) (h31 : b3 ≠ b1) (h32 : b3 ≠ b2) (hown : ∀ k, T.own eb k → k < N) (hrb : rb < N) (hb1 : N ≤ b1) (hb2 : N ≤ b2) :
    Calls Try.prog 42 #[.pointer (some ⟨rb, 0, none⟩), .func (.func 43) #[] #[.pointer (some ⟨b1, 0, none⟩), .pointer (some ⟨b2, 0, none⟩), .pointer (some ⟨b3, 0, none⟩)]] w (EachPost (ranges T tail op) stop N b1 b2 w) := by
  have c0 := hrs.c0
  have HEC := hide (ecursor_any f K B eb T w h hk hn h0)
  have HRD := hide (h.rd hn)
  have HRS := hide hrs; have HA1 := hide a1; have HA2 := hide a2; have HV3 := hide v3; have HOWN := hide hown; have HX := hide (⟨h12, h31, h32, hrb, hb1, hb2⟩ : b1 ≠ b2 ∧ b3 ≠ b1 ∧ b3 ≠ b2 ∧ rb < N ∧ N ≤ b1 ∧ N ≤ b2)
  clear h hk h0 hrs a1 a2 v3 hown h12 h31 h32 hrb hb1 hb2
  go_enter Try.func42, Try.ntmps42
  go_wp2_with fail
  refine (unhide HEC).mono ?_
  rintro e W1 ⟨cb, g, rfl, hcb, hg, hF, hC⟩
  obtain ⟨gc, hgc, hgl, hC⟩ := hC.norm
  have HI : Hid (EachI w W1 N cb gc T 0 b1 b1 b2 b2 b3 rb eb tail op stop [] []) := hide (by
    obtain ⟨h12, h31, h32, hrb, hb1, hb2⟩ := unhide HX
    have l1 := (unhide HA1).lt; have l2 := (unhide HA2).lt
    have l3 : b3 < w.heap.size := World.block_lt_of_cell? w _ (unhide HV3)
    exact ⟨hC, (unhide HRD).fr hF (fun _ _ _ _ e => e) (fun _ _ _ _ e => e), (unhide HA1).fr hF (fun e => e) (fun e => e), (unhide HA2).fr hF (fun e => e) (fun e => e), hF.mono (fun _ _ e => e.elim),
      (hF.cell (p := ⟨b3, 0, none⟩) l3 (fun e => e)).trans (unhide HV3), (unhide HRS).fr hF (fun e => e), ⟨by omega, by omega, by omega, by omega, by omega⟩, ⟨by omega, by omega, by omega, by omega, by omega⟩, ⟨h12, h12, h12.symm, h12⟩, ⟨h31, h32, h31, h32⟩, ⟨hb1, hb2, by omega, by omega, hb1, hb2⟩, hrb, hgl, fun L hL k hk => (unhide HOWN) k (.inr (.inl ⟨L, hL, hk⟩)), fun I hI k hk => (unhide HOWN) k (.inr (.inr ⟨I, hI, hk⟩))⟩)
  clear hcb hg hF hC hgc hgl c0 HEC HRD HRS HA1 HA2 HV3
  go_wp2_with fail
  go_loopg [] T.es.length (fun gk wr => ∃ p g1 g2 : Nat, gk + p = T.es.length ∧ Hid (p = 0 ∨ (p : Int) < stop) ∧ Hid (EachI w wr N cb gc T p b1 g1 b2 g2 b3 rb eb tail op stop (v1s ((ranges T tail op).take p)) (v2s ((ranges T tail op).take p))))
  case atStart => exact ⟨0, b1, b2, rfl, hide (.inl rfl), HI⟩
  case round =>
    obtain ⟨p, g1, g2, hpk, HP, HJ⟩ := hrel
    have HV := hide (valid_at (unhide HJ).cur)
    by_cases hp : p < T.es.length
    · have hd : decide (p < T.es.length) = true := by rw [decide_eq_true_iff]; exact hp
      rw [hd] at HV
      clear hd
      go_wp2_with fail
      refine (unhide HV).mono ?_
      rintro e W2 ⟨rfl, k2, hW2⟩
      have J2 := (unhide HJ).keep (w' := W2) (by rw [hW2]; exact (Fr.refl _ wr).drewN k2)
      have HJ2 := hide J2
      clear hW2 J2 HV HJ
      go_wp2_with fail
      refine (value_at (unhide HJ2).cur (unhide HJ2).rd hp).mono ?_
      rintro e W3 ⟨rfl, hF3⟩
      have HJ3 := hide ((unhide HJ2).keep hF3)
      clear hF3 HJ2
      obtain ⟨s, hs⟩ : ∃ s, s = T.es[p].2 := ⟨_, rfl⟩
      rw [← hs]
      have HS := hide hs
      clear hs
      go_wp2_with fail
      refine (key_at (unhide HJ3).cur (unhide HJ3).rd hp).mono ?_
      rintro e W4 ⟨rfl, hF4⟩
      have HJ4 := hide ((unhide HJ3).keep hF4)
      clear hF4 HJ3
      obtain ⟨t, ht⟩ : ∃ t, t = T.es[p].1 := ⟨_, rfl⟩
      rw [← ht]
      have HT := hide ht
      clear ht
      go_wp2_with fail
      have hlen : (v1s ((ranges T tail op).take p)).length = p := by unfold v1s ranges; rw [List.length_map, List.length_take, List.length_append, List.length_map]; omega
      have hlen2 : (v2s ((ranges T tail op).take p)).length = p := by unfold v2s ranges; rw [List.length_map, List.length_take, List.length_append, List.length_map]; omega
      have J4 := unhide HJ4
      refine (clo_any b1 g1 b2 g2 b3 _ _ s t stop W4 J4.a1 J4.a2 (by rw [hlen, hlen2]) J4.v3 (by rw [hlen]; omega) J4.gg.2.2.2 J4.gg.1 J4.gg.2.1 J4.gg.2.2.1 J4.bb.1 J4.bb.2.1 J4.bb.2.2.1 J4.bb.2.2.2).mono ?_
      clear J4
      rintro e W5 ⟨rfl, g1', g2', x1, x2, x3, x4, x5, x6⟩
      rw [hlen]
      have e1 : v1s ((ranges T tail op).take p) ++ [s.v] = v1s ((ranges T tail op).take (p + 1)) := by
        rw [ranges_take T tail op p hp, unhide HS]; unfold v1s; rw [List.map_append]; rfl
      have e2 : v2s ((ranges T tail op).take p) ++ [t.v] = v2s ((ranges T tail op).take (p + 1)) := by
        rw [ranges_take T tail op p hp, unhide HT]; unfold v2s; rw [List.map_append]; rfl
      have HJ5 := hide ((unhide HJ4).clo x1 x2 x3 x4 x5 x6)
      rw [e1, e2] at HJ5
      clear x1 x2 x3 x4 x5 x6 hlen hlen2 e1 e2 HJ4
      by_cases hst : (p : Int) + 1 < stop
      · have hd : decide ((p : Int) + 1 < stop) = true := by rw [decide_eq_true_iff]; exact hst
        rw [hd]
        have HST := hide hst
        clear hd hst
        go_wp2_with fail
        refine (next_at (unhide HJ5).cur (unhide HJ5).rd (unhide HJ5).apart hp).mono ?_
        rintro e W6 ⟨rfl, y1, y2⟩
        have HJ6 := hide ((unhide HJ5).next y1 y2)
        clear y1 y2 HJ5
        go_wp2_with fail
        go_roundg (gk - 1)
        case measure => omega
        case rel => exact ⟨p + 1, g1', g2', by omega, hide (.inr (by have := unhide HST; omega)), HJ6⟩
      · have hd : decide ((p : Int) + 1 < stop) = false := by rw [decide_eq_false_iff_not]; exact hst
        rw [hd]
        have HST := hide hst
        clear hd hst
        go_wp2_with fail
        go_ret
        have hl : p < (ranges T tail op).length := by unfold ranges; rw [List.length_append, List.length_map]; omega
        obtain ⟨q1, q2⟩ := handed_stop hl (unhide HP) (stop := stop) (by have := unhide HST; omega)
        refine ⟨by rw [q2]; rfl, g1', g2', by rw [q1]; exact (unhide HJ5).a1, by rw [q1]; exact (unhide HJ5).a2, (unhide HJ5).fr⟩
    · have hpe : p = T.es.length := by omega
      have hd : decide (p < T.es.length) = false := by rw [decide_eq_false_iff_not]; exact hp
      rw [hd] at HV
      have HPE := hide hpe
      clear hd hpe hpk
      go_wp2_with fail
      refine (unhide HV).mono ?_
      rintro e W2 ⟨rfl, k2, hW2⟩
      have HJ2 := hide ((unhide HJ).keep (w' := W2) (by rw [hW2]; exact (Fr.refl _ wr).drewN k2))
      clear hW2 HV HJ
      have z1 := (unhide HJ2).rs.c1; have z2 := (unhide HJ2).rs.c2
      cases op with
      | false =>
        go_wp2_with fail
        go_ret
        have hl : (ranges T tail false).length = p := by unfold ranges; rw [List.length_append, List.length_map, ← unhide HPE]; rfl
        obtain ⟨q1, q2⟩ := handed_all (n := p) (unhide HP)
        refine ⟨by rw [hl, q2]; rfl, g1, g2, by rw [hl, q1]; exact (unhide HJ2).a1, by rw [hl, q1]; exact (unhide HJ2).a2, (unhide HJ2).fr⟩
      | true =>
        go_wp2_with fail
        have hlen : (v1s ((ranges T tail true).take p)).length = p := by unfold v1s ranges; rw [List.length_map, List.length_take, List.length_append, List.length_map, ← unhide HPE]; omega
        have hlen2 : (v2s ((ranges T tail true).take p)).length = p := by unfold v2s ranges; rw [List.length_map, List.length_take, List.length_append, List.length_map, ← unhide HPE]; omega
        have J4 := unhide HJ2
        refine (clo_any b1 g1 b2 g2 b3 _ _ tail Sl.nil stop W2 J4.a1 J4.a2 (by rw [hlen, hlen2]) J4.v3 (by rw [hlen]; have := unhide HPE; omega) J4.gg.2.2.2 J4.gg.1 J4.gg.2.1 J4.gg.2.2.1 J4.bb.1 J4.bb.2.1 J4.bb.2.2.1 J4.bb.2.2.2).mono ?_
        clear J4
        rintro e W5 ⟨rfl, g1', g2', x1, x2, x3, x4, x5, x6⟩
        rw [hlen]
        have hR : (ranges T tail true).take p ++ [(tail, Sl.nil)] = ranges T tail true := by
          unfold ranges
          rw [List.take_append_of_le_length (by rw [List.length_map, unhide HPE]; exact Nat.le_refl _), List.take_of_length_le (by rw [List.length_map, unhide HPE]; exact Nat.le_refl _)]
          rfl
        have e1 : v1s ((ranges T tail true).take p) ++ [tail.v] = v1s (ranges T tail true) := by
          conv => rhs; rw [← hR]
          unfold v1s; rw [List.map_append]; rfl
        have e2 : v2s ((ranges T tail true).take p) ++ [Sl.nil.v] = v2s (ranges T tail true) := by
          conv => rhs; rw [← hR]
          unfold v2s; rw [List.map_append]; rfl
        have HJ5 := hide ((unhide HJ2).clo x1 x2 x3 x4 x5 x6)
        rw [e1, e2] at HJ5
        clear x1 x2 x3 x4 x5 x6 hlen hlen2 e1 e2 z1 z2 HJ2 hR
        obtain ⟨bb, hbb⟩ : ∃ b, b = decide ((p : Int) + 1 < stop) := ⟨_, rfl⟩
        rw [← hbb]
        have HBB := hide hbb
        clear hbb
        go_wp2_with fail
        go_ret
        have hl : (ranges T tail true).length = p + 1 := by unfold ranges; rw [List.length_append, List.length_map, ← unhide HPE]; rfl
        by_cases hst : (p : Int) + 1 < stop
        · obtain ⟨q1, q2⟩ := handed_all (n := p + 1) (stop := stop) (.inr (by omega))
          have hb : bb = true := by rw [unhide HBB, decide_eq_true_iff]; exact hst
          refine ⟨by rw [hl, q2, ← hb]; rfl, g1', g2', ?_, ?_, (unhide HJ5).fr⟩
          · rw [hl, q1, List.take_of_length_le (by omega)]; exact (unhide HJ5).a1
          · rw [hl, q1, List.take_of_length_le (by omega)]; exact (unhide HJ5).a2
        · obtain ⟨q1, q2⟩ := handed_stop (n := p + 1) (by omega) (unhide HP) hst
          have hb : bb = false := by rw [unhide HBB, decide_eq_false_iff_not]; exact hst
          refine ⟨by rw [hl, q2, ← hb]; rfl, g1', g2', ?_, ?_, (unhide HJ5).fr⟩
          · rw [hl, q1, List.take_of_length_le (by omega)]; exact (unhide HJ5).a1
          · rw [hl, q1, List.take_of_length_le (by omega)]; exact (unhide HJ5).a2

/-- a slice handed back: nil, or a row of its own -/
def OutAt (w : World) (v : Value) (xs : List Value) : Prop := (xs = [] ∧ v = .slice none 0 0) ∨ ∃ g cap, v = .slice (some ⟨g, 0, none⟩) xs.length cap ∧ Row w g 23 1 xs.length cap xs

def ZEachPost (R : List (Sl × Sl)) (stop : Int) (w : World) (e : Ending) (w' : World) : Prop :=
  ∃ v1 v2, e = .returned (.tuple #[v1, v2, .bool (saidAll R.length stop)]) ∧ OutAt w' v1 (v1s (R.take (handed R.length stop))) ∧ OutAt w' v2 (v2s (R.take (handed R.length stop))) ∧ Fr (fun _ => False) w w'

theorem Acc.out {w : World} {b g : Nat} {xs : List Value} (h : Acc w 22 23 b g xs) : ∃ v, w.cell? ⟨b, 0, none⟩ = some v ∧ OutAt w v xs ∧ ∃ a n c, v = .slice a n c := by
  obtain ⟨v, h1, h2⟩ := h
  refine ⟨v, (var_cell h1).1, ?_, ?_⟩
  · rcases h2 with h2 | ⟨_, cap, h3, h4, _⟩
    · exact .inl h2
    · exact .inr ⟨g, cap, h3, h4⟩
  · rcases h2 with ⟨_, h2⟩ | ⟨_, cap, h3, _⟩
    · exact ⟨_, _, _, h2⟩
    · exact ⟨_, _, _, h3⟩

set_option maxRecDepth 20000 in
set_option maxHeartbeats 4000000 in
theorem zzEach_any (f : Sl → List UInt8) (K : Sl → Prop) (B : Nat) (eb : Nat) (T : Tr) (w : World) (rb : Nat) (tail : Sl) (op : Bool) (stop : Int)
    (h : Ok f K B w eb T) (hk : KOK f K B w) (hn : T.es.length ≤ 7000) (h0 : f Sl.nil = []) (hrs : RsAt w rb eb tail op) :
    Calls Try.prog 15 #[.pointer (some ⟨rb, 0, none⟩), .int .i64 stop] w (ZEachPost (ranges T tail op) stop w) := by
  have hmf : ∀ (fn : Fn) (first cap : Array Value) (w : World), (Instr.makeFunc fn first cap).run Try.prog w = .ok (.func fn first cap) w := fun _ _ _ _ => rfl
  have H := hide h; have HK := hide hk; have H0 := hide h0; have HRS := hide hrs
  clear h hk h0 hrs
  go_enter Try.func15, Try.ntmps15
  go_wp2_with fail
  obtain ⟨W1, hW1⟩ : ∃ W, W = ((w.alloc (.cells #[.int .i64 stop] 3)).alloc (.cells #[.slice none 0 0] 22)).alloc (.cells #[.slice none 0 0] 22) := ⟨_, rfl⟩
  rw [← hW1]
  have F1 : Fr (fun _ => False) w W1 := by rw [hW1]; exact (((Fr.refl _ w).alloc _).alloc _).alloc _
  have V3 : W1.cell? ⟨w.heap.size, 0, none⟩ = some (.int .i64 stop) := by
    have : W1.heap[w.heap.size]? = some (.cells #[.int .i64 stop] 3 (0, 0)) := by
      rw [hW1, Below.heap_alloc _ _ _ (by simp; omega), Below.heap_alloc _ _ _ (by simp)]
      exact heap_alloc_new w _
    exact (var_cell this).1
  have V1 : W1.heap[w.heap.size + 1]? = some (.cells #[.slice none 0 0] 22 (0, 0)) := by
    rw [hW1, Below.heap_alloc _ _ _ (by simp)]
    have := heap_alloc_new (w.alloc (.cells #[.int .i64 stop] 3)) (.cells #[.slice none 0 0] 22)
    have e : (w.alloc (.cells #[.int .i64 stop] 3)).heap.size = w.heap.size + 1 := by simp
    rw [e] at this
    exact this
  have V2 : W1.heap[w.heap.size + 1 + 1]? = some (.cells #[.slice none 0 0] 22 (0, 0)) := by
    have := heap_alloc_new ((w.alloc (.cells #[.int .i64 stop] 3)).alloc (.cells #[.slice none 0 0] 22)) (.cells #[.slice none 0 0] 22)
    have e : ((w.alloc (.cells #[.int .i64 stop] 3)).alloc (.cells #[.slice none 0 0] 22)).heap.size = w.heap.size + 1 + 1 := by simp
    rw [e] at this
    rw [hW1]; exact this
  clear hW1
  have hE := each_any f K B eb T W1 rb tail op w.heap.size (w.heap.size + 1) (w.heap.size + 1 + 1) w.heap.size stop ((unhide H).fr F1 (fun _ _ e => e)) ((unhide HK).fr F1 (fun _ _ e => e)) hn (unhide H0) ((unhide HRS).fr F1 (fun e => e))
    ⟨_, V1, .inl ⟨rfl, rfl⟩⟩ ⟨_, V2, .inl ⟨rfl, rfl⟩⟩ V3 (by omega) (by omega) (by omega) (unhide H).own_lt (unhide HRS).lt (by omega) (by omega)
  refine hE.mono ?_
  clear hE V1 V2 V3
  rintro e W2 ⟨rfl, g1, g2, x1, x2, x3⟩
  obtain ⟨v1, y1, z1, a1, n1, c1, rfl⟩ := Acc.out x1
  obtain ⟨v2, y2, z2, a2, n2, c2, rfl⟩ := Acc.out x2
  have HZ1 := hide z1; have HZ2 := hide z2
  have HF := hide (show Fr (fun _ => False) w W2 from F1.trans (x3.mono (G := fun k => w.heap.size ≤ k) (fun _ _ e => e)) (fun k hk e => by omega))
  obtain ⟨bb, hbb⟩ : ∃ b, b = saidAll (ranges T tail op).length stop := ⟨_, rfl⟩
  rw [← hbb]
  have HBB := hide hbb
  clear hbb x1 x2 x3 F1 z1 z2
  go_wp2_with fail
  go_quiet (fail)
  go_wp2_with fail
  refine bodyPost_ret (v := .tuple #[.slice a1 n1 c1, .slice a2 n2 c2, .bool bb]) (by simp [results, Try.results15, go_sem]) rfl ?_
  refine ⟨_, _, by rw [unhide HBB], unhide HZ1, unhide HZ2, (unhide HF).drewN nq⟩
end Go.Proofs.Qxb6615626a.BA
