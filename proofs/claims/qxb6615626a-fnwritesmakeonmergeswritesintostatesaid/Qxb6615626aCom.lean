/-
  Commits kept in a tree: ZZNewCommitAll, Len, Each, ZZCommitEach.
-/
import Derived.Test.Qxb6615626aFst2
import Derived.Test.Qxb6615626aAccB
namespace Go.Proofs.Qxb6615626a.BV
open Go.RowKit
set_option linter.unusedVariables false

theorem Ok.keys {f : Sl → List UInt8} {K : Sl → Prop} {B : Nat} {w : World} {eb : Nat} {T : Tr} (h : Ok f K B w eb T) : ∀ e ∈ T.es, K e.1 := by
  intro e he
  unfold Tr.es at he
  obtain ⟨L, hL, he⟩ := List.mem_flatMap.1 he
  exact h.core.kk L hL e he

/-- a Commit's block: its tree, n -/
def CmAll (w : World) (cm eb n : Nat) : Prop := ∃ c e x, w.heap[cm]? = some (.cells #[.pointer (some ⟨eb, 0, none⟩), .slice none 0 0, .int .i64 n, c, e, x] 87 (0, 0))

section
variable {w w' : World} {cm eb n : Nat}
theorem CmAll.c0 (h : CmAll w cm eb n) : w.cell? ⟨cm, 0, none⟩ = some (.pointer (some ⟨eb, 0, none⟩)) := by obtain ⟨c, e, x, h⟩ := h; simp [World.cell?, h]
theorem CmAll.c2 (h : CmAll w cm eb n) : w.cell? ⟨cm, 2, none⟩ = some (.int .i64 n) := by obtain ⟨c, e, x, h⟩ := h; simp [World.cell?, h]
theorem CmAll.lt (h : CmAll w cm eb n) : cm < w.heap.size := by obtain ⟨c, e, x, h⟩ := h; exact (Array.getElem?_eq_some_iff.1 h).1
theorem CmAll.fr {F : Nat → Prop} (h : CmAll w cm eb n) (hf : Fr F w w') (hn : ¬ F cm) : CmAll w' cm eb n := by
  have hl := h.lt
  obtain ⟨c, e, x, h⟩ := h; exact ⟨c, e, x, by rw [hf.block cm hl hn]; exact h⟩
end

set_option maxHeartbeats 1000000 in
theorem newAll_any (eb n : Nat) (w : World) :
    Calls Try.prog 23 #[.pointer (some ⟨eb, 0, none⟩), .int .i64 n, .int .i64 0, .int .i64 0] w fun e w' => e = .returned (.pointer (some ⟨w.heap.size, 0, none⟩)) ∧ CmAll w' w.heap.size eb n ∧ Fr (fun _ => False) w w' := by
  go_enter Try.func23, Try.ntmps23
  go_wp2_with fail
  go_ret
  exact ⟨rfl, ⟨_, _, _, heap_alloc_new w _⟩, (Fr.refl _ w).alloc _⟩

set_option maxHeartbeats 1000000 in
theorem len_any (cm n : Nat) (w : World) (h : w.cell? ⟨cm, 2, none⟩ = some (.int .i64 n)) :
    Calls Try.prog 25 #[.pointer (some ⟨cm, 0, none⟩)] w fun e w' => e = .returned (.int .i64 n) ∧ w' = w := by
  go_enter Try.func25, Try.ntmps25
  go_wp2_with fail
  go_ret
  exact ⟨rfl, rfl⟩

/-- all that Each's loop works on -/
structure EachJ (f : Sl → List UInt8) (K : Sl → Prop) (B : Nat) (w0 w : World) (N : Nat) (T : Tr) (b1 g1 b2 g2 cm eb n : Nat) (xs ys : List Value) : Prop where
  ok : Ok f K B w eb T
  kok : KOK f K B w
  a1 : Acc w 22 23 b1 g1 xs
  a2 : Acc w 38 48 b2 g2 ys
  fr : Fr (fun k => N ≤ k) w0 w
  cmt : CmAll w cm eb n
  gg : g1 ≠ g2 ∧ g1 ≠ b2 ∧ g2 ≠ b1 ∧ b1 ≠ b2
  lo : N ≤ g1 ∧ N ≤ g2 ∧ N ≤ b1 ∧ N ≤ b2
  cl : cm < N
  tl : ∀ k, T.own eb k → k < N
  bn : B ≤ N

section
variable {f : Sl → List UInt8} {K : Sl → Prop} {B : Nat} {w0 w w' : World} {N : Nat} {T : Tr} {b1 g1 b2 g2 cm eb n : Nat} {xs ys : List Value}

theorem EachJ.keep (h : EachJ f K B w0 w N T b1 g1 b2 g2 cm eb n xs ys) (hf : Fr (fun _ => False) w w') : EachJ f K B w0 w' N T b1 g1 b2 g2 cm eb n xs ys :=
  ⟨h.ok.fr hf (fun _ _ e => e), h.kok.fr hf (fun _ _ e => e), h.a1.fr hf (fun e => e) (fun e => e), h.a2.fr hf (fun e => e) (fun e => e), h.fr.trans hf (fun _ _ e => e.elim), h.cmt.fr hf (fun e => e), h.gg, h.lo, h.cl, h.tl, h.bn⟩

theorem ne_new {a g g' S : Nat} (h : g' = g ∨ S ≤ g') (hg : a ≠ g) (ha : a < S) : a ≠ g' := by
  rcases h with rfl | e
  · exact hg
  · exact fun h => by subst h; exact absurd ha (Nat.not_lt.2 e)
theorem le_new {N g g' S : Nat} (h : g' = g ∨ S ≤ g') (hg : N ≤ g) (ha : N ≤ S) : N ≤ g' := by
  rcases h with rfl | e
  · exact hg
  · exact Nat.le_trans ha e

theorem EachJ.clo (h : EachJ f K B w0 w N T b1 g1 b2 g2 cm eb n xs ys) {s e : Value} {g1' g2' : Nat} (x1 : Acc w' 22 23 b1 g1' (xs ++ [s])) (x2 : Acc w' 38 48 b2 g2' (ys ++ [e]))
    (hf : Fr (fun k => k = b1 ∨ k = g1 ∨ k = b2 ∨ k = g2) w w') (h1 : g1' = g1 ∨ w.heap.size ≤ g1') (h2 : g2' = g2 ∨ w.heap.size ≤ g2') (h12 : g1' ≠ g2') :
    EachJ f K B w0 w' N T b1 g1' b2 g2' cm eb n (xs ++ [s]) (ys ++ [e]) := by
  obtain ⟨e1, e2, e3, e4⟩ := h.gg
  obtain ⟨l1, l2, l3, l4⟩ := h.lo
  have hb1 := h.a1.lt; have hb2 := h.a2.lt
  have hNs : N ≤ w.heap.size := Nat.le_trans l3 (Nat.le_of_lt hb1)
  have no : ∀ k, k < N → ¬ (k = b1 ∨ k = g1 ∨ k = b2 ∨ k = g2) := fun k hk e => by
    rcases e with e | e | e | e
    · exact absurd hk (by rw [e]; exact Nat.not_lt.2 l3)
    · exact absurd hk (by rw [e]; exact Nat.not_lt.2 l1)
    · exact absurd hk (by rw [e]; exact Nat.not_lt.2 l4)
    · exact absurd hk (by rw [e]; exact Nat.not_lt.2 l2)
  have up : ∀ k, (k = b1 ∨ k = g1 ∨ k = b2 ∨ k = g2) → N ≤ k := fun k e => Nat.not_lt.1 (fun hk => no k hk e)
  exact ⟨h.ok.fr hf (fun k hk => no k (h.tl k hk)), h.kok.fr hf (fun k hk => no k (Nat.lt_of_lt_of_le hk h.bn)), x1, x2, h.fr.trans hf (fun k _ e => up k e), h.cmt.fr hf (no cm h.cl),
    ⟨h12, (ne_new h1 e2.symm hb2).symm, (ne_new h2 e3.symm hb1).symm, e4⟩, ⟨le_new h1 l1 hNs, le_new h2 l2 hNs, l3, l4⟩, h.cl, h.tl, h.bn⟩
end

def EachBPost (es : List (Sl × Option Addr)) (N b1 b2 : Nat) (w : World) (e : Ending) (w' : World) : Prop :=
  e = .returned (.tuple #[]) ∧ ∃ g1 g2, Acc w' 22 23 b1 g1 (kvs es) ∧ Acc w' 38 48 b2 g2 (vvs es) ∧ Fr (fun k => N ≤ k) w w'

theorem kvs_snoc (es : List (Sl × Option Addr)) (p : Nat) (hp : p < es.length) : kvs (es.take (p + 1)) = kvs (es.take p) ++ [es[p].1.v] := by
  rw [List.take_succ_eq_append_getElem hp]; unfold kvs; rw [List.map_append]; rfl
theorem vvs_snoc (es : List (Sl × Option Addr)) (p : Nat) (hp : p < es.length) : vvs (es.take (p + 1)) = vvs (es.take p) ++ [.pointer es[p].2] := by
  rw [List.take_succ_eq_append_getElem hp]; unfold vvs; rw [List.map_append]; rfl

set_option maxRecDepth 20000 in
set_option maxHeartbeats 4000000 in
theorem eachAll_any (f : Sl → List UInt8) (K : Sl → Prop) (B : Nat) (eb : Nat) (T : Tr) (w : World) (cm n : Nat) (N b1 b2 : Nat)
    (h : Ok f K B w eb T) (hk : KOK f K B w) (hn : T.es.length ≤ 7000) (h0 : f Sl.nil = []) (hcm : CmAll w cm eb n) (hne : T.es.length = n) (hpos : 0 < n) (a1 : Acc w 22 23 b1 b1 []) (a2 : Acc w 38 48 b2 b2 [])
    (h12 : b1 ≠ b2) (hown : ∀ k, T.own eb k → k < N) (hcl : cm < N) (hb1 : N ≤ b1) (hb2 : N ≤ b2) (hBN : B ≤ N) :
    Calls Try.prog 45 #[.pointer (some ⟨cm, 0, none⟩), .func (.func 46) #[] #[.pointer (some ⟨b1, 0, none⟩), .pointer (some ⟨b2, 0, none⟩)]] w (EachBPost T.es N b1 b2 w) := by
  have c0 := hcm.c0
  have J0 : EachJ f K B w w N T b1 b1 b2 b2 cm eb n [] [] := ⟨h, hk, a1, a2, Fr.refl _ w, hcm, ⟨h12, h12, h12.symm, h12⟩, ⟨hb1, hb2, hb1, hb2⟩, hcl, hown, hBN⟩
  have hf0 := fidx_nil h.core.asc
  have hpos' : 0 < T.es.length := by omega
  obtain ⟨s0, hs0⟩ : ∃ s, s = T.es[0].1 := ⟨_, rfl⟩
  obtain ⟨x0, hx0⟩ : ∃ x, x = T.es[0].2 := ⟨_, rfl⟩
  have HEF := hide ((efirst_any f K B eb T Sl.nil w h hk hn (by rw [h0]; exact Byt.nil w)).mono (fun e w' hp => (show e = .returned (.tuple #[.slice s0.a s0.n s0.c, .pointer x0, .bool true]) ∧ Fr (fun _ => False) w w' from ⟨by rw [hp.1, h0, hf0, firstRes_lt hpos', hs0, hx0], hp.2⟩)))
  have HS0 := hide hs0; have HX0 := hide hx0; have HJ := hide J0; have HNE := hide hne; have HN := hide hn
  clear h hk h0 hcm a1 a2 h12 hown hcl hb1 hb2 hBN J0 hf0 hs0 hx0 hne
  have hnb : n ≤ 7000 := by have := unhide HNE; omega
  clear hn
  go_enter Try.func45, Try.ntmps45
  go_wp2_with fail
  refine (unhide HEF).mono ?_
  rintro e W1 ⟨rfl, hF1⟩
  have HJ1 := hide ((unhide HJ).keep hF1)
  clear hF1 c0 HJ HEF
  go_wp2_with fail
  go_loopg [6, 7, 9] n (fun gk v6 v7 v9 wr => ∃ (p g1 g2 : Nat) (s : Sl) (x : Option Addr), gk + p = n ∧ p < n ∧ v9 = .int .i64 p ∧ v6 = .slice s.a s.n s.c ∧ v7 = .pointer x ∧ Hid (T.es[p]? = some (s, x)) ∧ Hid (EachJ f K B w wr N T b1 g1 b2 g2 cm eb n (kvs (T.es.take p)) (vvs (T.es.take p))))
  case atStart => exact ⟨0, b1, b2, s0, x0, rfl, hpos, rfl, rfl, rfl, hide (by rw [List.getElem?_eq_getElem hpos', unhide HS0, unhide HX0]), HJ1⟩
  case round =>
    obtain ⟨p, g1, g2, s, x, hgp, hpn, rfl, rfl, rfl, HSX, HJ⟩ := hrel
    go_wp2_with fail
    have hpl : p < T.es.length := by have := unhide HNE; omega
    have hsx : T.es[p] = (s, x) := (List.getElem?_eq_some_iff.1 (unhide HSX)).2
    have J := unhide HJ
    refine (cloB_any b1 g1 b2 g2 _ _ s x wr J.a1 J.a2 (by rw [length_kvs, length_vvs]) (by rw [length_kvs, List.length_take]; omega) J.gg.2.2.2 J.gg.1 J.gg.2.1 J.gg.2.2.1).mono ?_
    clear J
    rintro e W5 ⟨rfl, g1', g2', x1, x2, x3, x4, x5, x6⟩
    have HJ5 := hide ((unhide HJ).clo x1 x2 x3 x4 x5 x6)
    have e1 : kvs (T.es.take p) ++ [.slice s.a s.n s.c] = kvs (T.es.take (p + 1)) := by rw [kvs_snoc _ _ hpl, hsx]
    have e2 : vvs (T.es.take p) ++ [.pointer x] = vvs (T.es.take (p + 1)) := by rw [vvs_snoc _ _ hpl, hsx]
    rw [e1, e2] at HJ5
    have HSX' := hide hsx
    clear x1 x2 x3 x4 x5 x6 e1 e2 hsx HJ
    have d2 := (unhide HJ5).cmt.c2; have d0 := (unhide HJ5).cmt.c0
    by_cases hlast : p + 1 = n
    · have hb : ((p : Int) == (n : Int) - 1) = true := by rw [beq_iff_eq]; omega
      have HLAST := hide hlast
      clear hlast
      go_wp2_with fail
      refine bodyPost_ret (v := .tuple #[]) (by simp [results, Try.results45, go_sem]) rfl ?_
      have ht : T.es.take (p + 1) = T.es := List.take_of_length_le (by have := unhide HNE; have := unhide HLAST; omega)
      have J := unhide HJ5
      rw [ht] at J
      exact ⟨rfl, g1', g2', J.a1, J.a2, J.fr⟩
    · have hb : ((p : Int) == (n : Int) - 1) = false := by rw [beq_eq_false_iff_ne]; omega
      have hp1 : p + 1 < T.es.length := by have := unhide HNE; omega
      have hkey : f T.es[p].1 = f s := by rw [unhide HSX']
      have hnx := fidx_next (unhide HJ5).ok.core.asc hpl
      rw [hkey] at hnx
      have hKs : K s := by
        have := Ok.keys (unhide HJ5).ok T.es[p] (List.getElem_mem hpl)
        rw [unhide HSX'] at this
        exact this
      obtain ⟨s1, hs1⟩ : ∃ s, s = T.es[p + 1].1 := ⟨_, rfl⟩
      obtain ⟨y1, hy1⟩ : ∃ x, x = T.es[p + 1].2 := ⟨_, rfl⟩
      have HEA := hide ((eafter_any f K B eb T s W5 (unhide HJ5).ok (unhide HJ5).kok (unhide HN) ((unhide HJ5).kok s hKs).1).mono (fun e w' hp => (show e = .returned (.tuple #[.slice s1.a s1.n s1.c, .pointer y1, .bool true]) ∧ Fr (fun _ => False) W5 w' from ⟨by rw [hp.1, hnx, firstRes_lt hp1, hs1, hy1], hp.2⟩)))
      have HS1 := hide (show T.es[p + 1]? = some (s1, y1) from by rw [List.getElem?_eq_getElem hp1, hs1, hy1])
      clear hkey hnx hKs hs1 hy1
      go_wp2_with fail
      refine (unhide HEA).mono ?_
      rintro e W6 ⟨rfl, hF6⟩
      have HJ6 := hide ((unhide HJ5).keep hF6)
      clear hF6 HJ5 d2 d0
      go_wp2_with fail
      go_roundg (gk - 1)
      case measure => omega
      case rel => exact ⟨p + 1, g1', g2', s1, y1, by omega, by omega, by go_num, rfl, rfl, HS1, HJ6⟩

/-- a slice handed back: nil, or a row of its own -/
def OutB (w : World) (e : TypeId) (v : Value) (xs : List Value) : Prop := (xs = [] ∧ v = .slice none 0 0) ∨ ∃ g cap, v = .slice (some ⟨g, 0, none⟩) xs.length cap ∧ Row w g e 1 xs.length cap xs

theorem acc_out {w : World} {t e : TypeId} {b g : Nat} {xs : List Value} (h : Acc w t e b g xs) : ∃ v, w.cell? ⟨b, 0, none⟩ = some v ∧ OutB w e v xs ∧ ∃ a n c, v = .slice a n c := by
  obtain ⟨v, h1, h2⟩ := h
  refine ⟨v, (var_cell h1).1, ?_, ?_⟩
  · rcases h2 with h2 | ⟨_, cap, h3, h4, _⟩
    · exact .inl h2
    · exact .inr ⟨g, cap, h3, h4⟩
  · rcases h2 with ⟨_, h2⟩ | ⟨_, cap, h3, _⟩
    · exact ⟨_, _, _, h2⟩
    · exact ⟨_, _, _, h3⟩

def ZComPost (es : List (Sl × Option Addr)) (w : World) (e : Ending) (w' : World) : Prop :=
  ∃ v1 v2, e = .returned (.tuple #[v1, v2]) ∧ OutB w' 23 v1 (kvs es) ∧ OutB w' 48 v2 (vvs es) ∧ Fr (fun _ => False) w w'

set_option maxRecDepth 20000 in
set_option maxHeartbeats 4000000 in
/-- ZZCommitEach, whichever way the Commit is kept -/
theorem zzCom_of (cm : Nat) (es : List (Sl × Option Addr)) (w : World)
    (hE : ∀ W1 : World, Fr (fun _ => False) w W1 → Acc W1 22 23 w.heap.size w.heap.size [] → Acc W1 38 48 (w.heap.size + 1) (w.heap.size + 1) [] →
      Calls Try.prog 45 #[.pointer (some ⟨cm, 0, none⟩), .func (.func 46) #[] #[.pointer (some ⟨w.heap.size, 0, none⟩), .pointer (some ⟨w.heap.size + 1, 0, none⟩)]] W1 (EachBPost es w.heap.size w.heap.size (w.heap.size + 1) W1)) :
    Calls Try.prog 24 #[.pointer (some ⟨cm, 0, none⟩)] w (ZComPost es w) := by
  have hmf : ∀ (fn : Fn) (first cap : Array Value) (w : World), (Instr.makeFunc fn first cap).run Try.prog w = .ok (.func fn first cap) w := fun _ _ _ _ => rfl
  have HE := hide hE
  clear hE
  go_enter Try.func24, Try.ntmps24
  go_wp2_with fail
  obtain ⟨W1, hW1⟩ : ∃ W, W = (w.alloc (.cells #[.slice none 0 0] 22)).alloc (.cells #[.slice none 0 0] 38) := ⟨_, rfl⟩
  rw [← hW1]
  have F1 : Fr (fun _ => False) w W1 := by rw [hW1]; exact ((Fr.refl _ w).alloc _).alloc _
  have V1 : W1.heap[w.heap.size]? = some (.cells #[.slice none 0 0] 22 (0, 0)) := by
    rw [hW1, Below.heap_alloc _ _ _ (by simp)]
    exact heap_alloc_new w _
  have V2 : W1.heap[w.heap.size + 1]? = some (.cells #[.slice none 0 0] 38 (0, 0)) := by
    have := heap_alloc_new (w.alloc (.cells #[.slice none 0 0] 22)) (.cells #[.slice none 0 0] 38)
    have e : (w.alloc (.cells #[.slice none 0 0] 22)).heap.size = w.heap.size + 1 := by simp
    rw [e] at this
    rw [hW1]; exact this
  clear hW1
  refine ((unhide HE) W1 F1 ⟨_, V1, .inl ⟨rfl, rfl⟩⟩ ⟨_, V2, .inl ⟨rfl, rfl⟩⟩).mono ?_
  clear V1 V2
  rintro e W2 ⟨rfl, g1, g2, x1, x2, x3⟩
  obtain ⟨v1, y1, z1, a1, n1, c1, rfl⟩ := acc_out x1
  obtain ⟨v2, y2, z2, a2, n2, c2, rfl⟩ := acc_out x2
  have HZ1 := hide z1; have HZ2 := hide z2
  have HF := hide (show Fr (fun _ => False) w W2 from F1.trans (x3.mono (G := fun k => w.heap.size ≤ k) (fun _ _ e => e)) (fun k hk e => by omega))
  clear x1 x2 x3 F1 z1 z2
  go_wp2_with fail
  go_quiet (fail)
  go_wp2_with fail
  go_ret2
  exact ⟨_, _, rfl, unhide HZ1, unhide HZ2, (unhide HF).drewN nq⟩

/-- .. in a tree -/
theorem zzComAll (f : Sl → List UInt8) (K : Sl → Prop) (B : Nat) (eb : Nat) (T : Tr) (w : World) (cm n : Nat)
    (h : Ok f K B w eb T) (hk : KOK f K B w) (hn : T.es.length ≤ 7000) (h0 : f Sl.nil = []) (hcm : CmAll w cm eb n) (hne : T.es.length = n) (hpos : 0 < n) (hB : B ≤ w.heap.size) :
    Calls Try.prog 24 #[.pointer (some ⟨cm, 0, none⟩)] w (ZComPost T.es w) :=
  zzCom_of cm T.es w fun W1 F1 A1 A2 =>
    eachAll_any f K B eb T W1 cm n w.heap.size w.heap.size (w.heap.size + 1) (h.fr F1 (fun _ _ e => e)) (hk.fr F1 (fun _ _ e => e)) hn h0 (hcm.fr F1 (fun e => e)) hne hpos A1 A2 (by omega) h.own_lt hcm.lt (Nat.le_refl _) (by omega) hB
end Go.Proofs.Qxb6615626a.BV
