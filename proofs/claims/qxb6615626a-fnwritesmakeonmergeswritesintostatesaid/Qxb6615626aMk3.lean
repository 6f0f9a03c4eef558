/-
  Writes: ZZNewWrites, all, zzWrites, ZZMakeOnCount.
-/
import Derived.Test.Qxb6615626aMk2
import Derived.Test.Qxb6615626aVers2
namespace Go.Proofs.Qxb6615626a.BV
open Go.RowKit
set_option linter.unusedVariables false

/-- a Writes' block -/
def WrAt (w : World) (wb : Nat) (p : Option Addr) : Prop := ∃ n s, w.heap[wb]? = some (.cells #[.pointer p, n, s] 125 (0, 0))

section
variable {w w' : World} {wb : Nat} {p : Option Addr}
theorem WrAt.c0 (h : WrAt w wb p) : w.cell? ⟨wb, 0, none⟩ = some (.pointer p) := by obtain ⟨n, s, h⟩ := h; simp [World.cell?, h]
theorem WrAt.lt (h : WrAt w wb p) : wb < w.heap.size := by obtain ⟨n, s, h⟩ := h; exact (Array.getElem?_eq_some_iff.1 h).1
theorem WrAt.fr {F : Nat → Prop} (h : WrAt w wb p) (hf : Fr F w w') (hn : ¬ F wb) : WrAt w' wb p := by
  have hl := h.lt
  obtain ⟨n, s, h⟩ := h; exact ⟨n, s, by rw [hf.block wb hl hn]; exact h⟩
end

set_option maxHeartbeats 1000000 in
theorem newWrites_any (p : Option Addr) (n s : Int) (w : World) :
    Calls Try.prog 47 #[.pointer p, .int .i64 n, .int .i64 s] w fun e w' => e = .returned (.pointer (some ⟨w.heap.size, 0, none⟩)) ∧ WrAt w' w.heap.size p ∧ Fr (fun _ => False) w w' := by
  go_enter Try.func47, Try.ntmps47
  go_wp2_with fail
  go_ret
  exact ⟨rfl, ⟨_, _, heap_alloc_new w _⟩, (Fr.refl _ w).alloc _⟩

/-- a Writes and the tree behind it, whose blocks lie from S0 up to S1 -/
structure WOK (f : Sl → List UInt8) (K : Sl → Prop) (S0 S1 : Nat) (w : World) (wb : Nat) (Tw : Tr) : Prop where
  wr : (WrAt w wb none ∧ Tw = ⟨[], none, []⟩) ∨ ∃ ebw, WrAt w wb (some ⟨ebw, 0, none⟩) ∧ Ok f K S0 w ebw Tw ∧ ∀ k, Tw.own ebw k → k < S1
  lo : S0 ≤ wb ∧ wb < S1
  s1 : S1 ≤ w.heap.size

section
variable {f : Sl → List UInt8} {K : Sl → Prop} {S0 S1 : Nat} {w w' : World} {wb : Nat} {Tw : Tr}

theorem WOK.fr {F : Nat → Prop} (h : WOK f K S0 S1 w wb Tw) (hf : Fr F w w') (hn : ∀ k, S0 ≤ k → k < S1 → ¬ F k) : WOK f K S0 S1 w' wb Tw := by
  refine ⟨?_, h.lo, Nat.le_trans h.s1 hf.size⟩
  rcases h.wr with ⟨h1, h2⟩ | ⟨ebw, h1, h2, h3⟩
  · exact .inl ⟨h1.fr hf (hn wb h.lo.1 h.lo.2), h2⟩
  · exact .inr ⟨ebw, h1.fr hf (hn wb h.lo.1 h.lo.2), h2.fr hf (fun k hk => hn k (h2.core.low k hk) (h3 k hk)), h3⟩

theorem WOK.rd (h : WOK f K S0 S1 w wb Tw) (hn : Tw.es.length ≤ 7000) : Rd w Tw := by
  rcases h.wr with ⟨h1, h2⟩ | ⟨ebw, h1, h2, h3⟩
  · subst h2; exact ⟨fun L hL => (nomatch hL), fun L hL => (nomatch hL), .inl ⟨rfl, Nat.zero_le _⟩⟩
  · exact h2.rd hn

theorem WOK.blk (h : WOK f K S0 S1 w wb Tw) : ∀ k, Tw.blk k → S0 ≤ k ∧ k < S1 := by
  intro k hk
  rcases h.wr with ⟨h1, h2⟩ | ⟨ebw, h1, h2, h3⟩
  · subst h2
    rcases hk with ⟨L, hL, _⟩ | ⟨I, hI, _⟩
    · cases hL
    · cases hI
  · have : Tw.own ebw k := .inr hk
    exact ⟨h2.core.low k this, h3 k this⟩

theorem WOK.keys (h : WOK f K S0 S1 w wb Tw) : ∀ e ∈ Tw.es, K e.1 := by
  rcases h.wr with ⟨h1, h2⟩ | ⟨ebw, h1, h2, h3⟩
  · subst h2; intro e he; cases he
  · exact Ok.keys h2

set_option maxHeartbeats 1000000 in
theorem all_any (h : WOK f K S0 S1 w wb Tw) (hk : KOK f K S0 w) (hn : Tw.es.length ≤ 7000) (h0 : f Sl.nil = []) :
    Calls Try.prog 48 #[.pointer (some ⟨wb, 0, none⟩)] w (CurNew w Tw) := by
  rcases h.wr with ⟨h1, h2⟩ | ⟨ebw, h1, h2, h3⟩
  · subst h2
    have c0 := h1.c0
    clear h h1 hk
    go_enter Try.func48, Try.ntmps48
    go_wp2_with fail
    refine (tcursor_nil w).mono ?_
    rintro e w' ⟨rfl, h1, h2⟩
    have H1 := hide h1; have H2 := hide h2
    clear h1 h2
    go_wp2_with fail
    go_ret
    exact ⟨w.heap.size + 1, w.heap.size + 1, rfl, by omega, by omega, unhide H2, .done none 0 (unhide H1) rfl⟩
  · have c0 := h1.c0
    have HC := hide (ecursor_any f K S0 ebw Tw w h2 hk hn h0)
    clear h h1 h2 h3 hk
    go_enter Try.func48, Try.ntmps48
    go_wp2_with fail
    refine (unhide HC).mono ?_
    rintro e w' ⟨cb, g, rfl, hr⟩
    have HR := hide hr
    clear hr
    go_wp2_with fail
    go_ret
    exact ⟨cb, g, rfl, unhide HR⟩
end

def CntPost (f : Sl → List UInt8) (K : Sl → Prop) (B eb : Nat) (Te Tw : Tr) (w : World) (e : Ending) (w' : World) : Prop :=
  e = .returned (.int .i64 Tw.es.length) ∧ ∃ Te', Ok f K B w' eb Te' ∧ Te'.es = mkAll f Te.es Tw.es ∧ Fr (Te.own eb) w w' ∧ (∀ k, Te'.own eb k → Te.own eb k ∨ w.heap.size ≤ k)

theorem KOK.more {f : Sl → List UInt8} {K : Sl → Prop} {B B' : Nat} {w : World} (h : KOK f K B w) (hB : B ≤ B') : KOK f K B' w := fun s hs => ⟨(h s hs).1, Nat.lt_of_lt_of_le (h s hs).2 hB⟩

set_option maxRecDepth 20000 in
set_option maxHeartbeats 2000000 in
theorem count_any (f : Sl → List UInt8) (K : Sl → Prop) (B eb wb S0 S1 : Nat) (Te Tw : Tr) (w : World) (hW : WOK f K S0 S1 w wb Tw) (hE : Ok f K B w eb Te) (hk : KOK f K B w) (hBS : B ≤ S0) (hm : ∀ s, K s → s.n ≤ maxLen) (h0 : f Sl.nil = [])
    (hsep : ∀ k, Te.own eb k → k < S0 ∨ S1 ≤ k) (hn : Te.es.length + Tw.es.length ≤ 7000) :
    Calls Try.prog 36 #[.pointer (some ⟨wb, 0, none⟩), .pointer (some ⟨eb, 0, none⟩)] w (CntPost f K B eb Te Tw w) := by
  have hmf : ∀ (fn : Fn) (first cap : Array Value) (w : World), (Instr.makeFunc fn first cap).run Try.prog w = .ok (.func fn first cap) w := fun _ _ _ _ => rfl
  obtain ⟨W1, hW1⟩ : ∃ W, W = w.alloc (.cells #[.int .i64 0] 3) := ⟨_, rfl⟩
  have F1 : Fr (fun _ => False) w W1 := by rw [hW1]; exact (Fr.refl _ w).alloc _
  have V1 : W1.heap[w.heap.size]? = some (.cells #[.int .i64 0] 3 (0, 0)) := by rw [hW1]; exact heap_alloc_new w _
  have z1 : W1.heap.size = w.heap.size + 1 := by rw [hW1]; simp
  have hW' := hW.fr F1 (fun _ _ _ e => e)
  have hk1 := hk.fr F1 (fun _ _ e => e)
  have hE1 := hE.fr F1 (fun _ _ e => e)
  have hBw : B ≤ w.heap.size := Nat.le_trans (hE.core.low eb (.inl rfl)) (Nat.le_of_lt hE.core.elt)
  have hlt := hE.own_lt
  have hs1 := hW.s1
  have HMK := hide (makeOn_cnt f K B eb wb w.heap.size Te Tw W1 (all_any hW' (hk1.more hBS) (by omega) h0) hE1 hk1 hm (hW'.rd (by omega)) hW'.keys
    (fun k hk => ⟨fun hb => by have := hW.blk k hb; have := hsep k hk; omega, fun e => by cases e; have := hlt _ hk; omega⟩)
    (fun k e => by cases e; exact ⟨fun hb => by have := hW.blk _ hb; omega, hBw, by omega⟩) (fun c e => by cases e; exact V1) hn)
  have HF1 := hide F1
  clear hW hE hk hm hW' hk1 hE1 F1 V1 hsep hlt hs1
  go_enter Try.func36, Try.ntmps36
  go_wp2_with fail
  rw [← hW1]
  refine (unhide HMK).mono ?_
  rintro e W2 ⟨rfl, Te', h1, h2, h3, h4, h5⟩
  have hc := (var_cell (h5 w.heap.size rfl).1).1
  have HH := hide (⟨h1, h2, h3, h4⟩ : Ok f K B W2 eb Te' ∧ Te'.es = mkAll f Te.es Tw.es ∧ Fr (fun k => Te.own eb k ∨ some w.heap.size = some k) W1 W2 ∧ (∀ k, Te'.own eb k → Te.own eb k ∨ W1.heap.size ≤ k))
  clear h1 h2 h3 h4 h5 hW1 HMK
  go_wp2_with fail
  go_ret
  obtain ⟨h1, h2, h3, h4⟩ := unhide HH
  refine ⟨rfl, Te', h1, h2, ((unhide HF1).mono (fun _ _ e => e.elim)).trans h3 (fun k hk e => ?_), fun k hk => (h4 k hk).imp id (fun e => by omega)⟩
  rcases e with e | e
  · exact e
  · cases e; omega

theorem unhide_mk {f : Sl → List UInt8} {K : Sl → Prop} {B eb : Nat} {Te Tw : Tr} {w : World} {e : Ending} {w' : World} (h : MkPost f K B eb Te Tw none w e w') :
    e = .returned (.tuple #[]) ∧ ∃ Te', Ok f K B w' eb Te' ∧ Te'.es = mkAll f Te.es Tw.es ∧ Fr (Te.own eb) w w' ∧ (∀ k, Te'.own eb k → Te.own eb k ∨ w.heap.size ≤ k) := by
  obtain ⟨h0, Te', h1, h2, h3, h4, _⟩ := h
  exact ⟨h0, Te', h1, h2, h3.mono (fun k _ e => e.elim id (fun e => nomatch e)), h4⟩

/-- MakeOn without a step -/
theorem makeOn_any (f : Sl → List UInt8) (K : Sl → Prop) (B eb wb S0 S1 : Nat) (Te Tw : Tr) (w : World) (hW : WOK f K S0 S1 w wb Tw) (hE : Ok f K B w eb Te) (hk : KOK f K B w) (hBS : B ≤ S0) (hm : ∀ s, K s → s.n ≤ maxLen) (h0 : f Sl.nil = [])
    (hsep : ∀ k, Te.own eb k → k < S0 ∨ S1 ≤ k) (hn : Te.es.length + Tw.es.length ≤ 7000) :
    Calls Try.prog 32 #[.pointer (some ⟨wb, 0, none⟩), .pointer (some ⟨eb, 0, none⟩), .nilFunc] w (MkPost f K B eb Te Tw none w) :=
  makeOn_nil f K B eb wb Te Tw w (all_any hW (hk.more hBS) (by omega) h0) hE hk hm (hW.rd (by omega)) hW.keys
    (fun k hk => ⟨fun hb => by have := hW.blk k hb; have := hsep k hk; omega, fun e => nomatch e⟩) (fun k e => nomatch e) (fun c e => nomatch e) hn
end Go.Proofs.Qxb6615626a.BV
