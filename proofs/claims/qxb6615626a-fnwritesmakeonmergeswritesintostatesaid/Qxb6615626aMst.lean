/-
  What both MakeOn laws know behind their clones; the editor's First and After, entry by entry.
-/
import Derived.Test.Qxb6615626aMk4
import Derived.Test.Qxb6615626aFit
import Derived.Test.Qxb6615626aPlw
import Derived.Test.Qxb6615626aNeq
namespace Go.Proofs.Qxb6615626a.BV
open Go.RowKit
set_option linter.unusedVariables false

def YesPost (w : World) (e : Ending) (w' : World) : Prop := e = .returned (.bool true) ∧ Fr (fun _ => False) w w'

structure MStart (w w1 : World) (bk k : Sl) (bks ks : List Sl) (lbk lk : List (List UInt8)) : Prop where
  fr : Fr (fun _ => False) w w1
  hb : LstB w1 bk bks lbk
  hk : LstB w1 k ks lk
  nb : bk.n ≤ 1024
  nk : k.n ≤ 1024
  mb : ∀ t ∈ bks, t.made w.heap.size w1.heap.size
  mkk : ∀ t ∈ ks, t.made w.heap.size w1.heap.size

section
variable {w w1 : World} {bk k : Sl} {bks ks : List Sl} {lbk lk : List (List UInt8)}

theorem lstB_map {k : Sl} {ks : List Sl} {lk : List (List UInt8)} (h : LstB w1 k ks lk) : ks.map (rdf w1) = lk := by
  have := h.len
  refine List.ext_getElem (by simp; omega) fun i h1 h2 => ?_
  rw [List.getElem_map]
  exact rdf_eq (h.byt i (by simpa using h1) h2)

theorem lstB_kok {k : Sl} {ks : List Sl} {lk : List (List UInt8)} {S : Nat} (h : LstB w1 k ks lk) (hm : ∀ t ∈ ks, t.made S w1.heap.size) : KOK (rdf w1) (· ∈ ks) w1.heap.size w1 := by
  intro x hx
  obtain ⟨i, hi, rfl⟩ := List.mem_iff_getElem.1 hx
  have hl := h.len
  have hb := h.byt i hi (by omega)
  have hsz : 0 < w1.heap.size := by
    obtain ⟨ka, kn, kc⟩ := k
    obtain ⟨b, o, t, _, hc, _⟩ := h.lst.at (show 0 < kn by have := h.lst.1; simp at this; omega)
    have := World.block_lt_of_cell? w1 _ hc
    exact Nat.lt_of_le_of_lt (Nat.zero_le _) this
  refine ⟨by rw [rdf_eq hb]; exact hb, ?_⟩
  rcases hm _ (List.getElem_mem hi) with e | e
  · have : (ks[i]).blk = 0 := by unfold Sl.blk; rw [e]
    omega
  · omega

theorem MStart.kok (h : MStart w w1 bk k bks ks lbk lk) : KOK (rdf w1) (fun s => s ∈ bks ∨ s ∈ ks) w1.heap.size w1 := by
  intro s hs
  rcases hs with e | e
  · exact lstB_kok h.hb h.mb s e
  · exact lstB_kok h.hk h.mkk s e

theorem MStart.small (h : MStart w w1 bk k bks ks lbk lk) : ∀ s, (s ∈ bks ∨ s ∈ ks) → s.n ≤ maxLen := by
  intro s hs
  rcases hs with e | e
  · exact h.hb.small s e
  · exact h.hk.small s e

theorem MStart.good (h : MStart w w1 bk k bks ks lbk lk) : ∀ x, (x ∈ bks ∨ x ∈ ks) → Good w1 w1 x := fun x hx => ⟨(h.kok x hx).1, h.small x hx⟩

theorem MStart.at (h : MStart w w1 bk k bks ks lbk lk) {j : Nat} {y : Sl} (hy : ks[j]? = some y) : lk[j]? = some (rdf w1 y) := by
  rw [← lstB_map h.hk, List.getElem?_map, hy]; rfl
end

theorem firstRes_dec (es : List (Sl × Option Addr)) (i : Nat) : ∃ (s : Sl) (x : Option Addr), firstRes es i = .tuple #[.slice s.a s.n s.c, .pointer x, .bool (decide (i < es.length))] ∧ (i < es.length → es[i]? = some (s, x)) := by
  by_cases h : i < es.length
  · exact ⟨es[i].1, es[i].2, by rw [firstRes_lt h, decide_eq_true h], fun _ => List.getElem?_eq_getElem h⟩
  · exact ⟨Sl.nil, none, by rw [firstRes_ge (by omega), decide_eq_false h]; rfl, fun e => absurd e h⟩

/-- what First and After hand back: the i-th entry, if there is one -/
def NthPost (es : List (Sl × Option Addr)) (i : Nat) (w : World) (e : Ending) (w' : World) : Prop :=
  ∃ (s : Sl) (x : Option Addr), e = .returned (.tuple #[.slice s.a s.n s.c, .pointer x, .bool (decide (i < es.length))]) ∧ (i < es.length → es[i]? = some (s, x)) ∧ Fr (fun _ => False) w w'

theorem LeastPost.nth {es : List (Sl × Option Addr)} {i : Nat} {w : World} {e : Ending} {w' : World} (h : LeastPost es i w e w') : NthPost es i w e w' := by
  obtain ⟨s, x, h1, h2⟩ := firstRes_dec es i
  exact ⟨s, x, by rw [h.1, h1], h2, h.2⟩

theorem efirst_nth (f : Sl → List UInt8) (K : Sl → Prop) (B eb : Nat) (T : Tr) (w : World) (h : Ok f K B w eb T) (hk : KOK f K B w) (hn : T.es.length ≤ 7000) (h0 : f Sl.nil = []) :
    Calls Try.prog 37 #[.pointer (some ⟨eb, 0, none⟩), .slice none 0 0] w (NthPost T.es 0 w) := by
  have := efirst_any f K B eb T Sl.nil w h hk hn (by rw [h0]; exact Byt.nil w)
  rw [h0, fidx_nil h.core.asc] at this
  exact this.mono (fun e w' hp => hp.nth)

theorem eafter_nth (f : Sl → List UInt8) (K : Sl → Prop) (B eb : Nat) (T : Tr) (w : World) (h : Ok f K B w eb T) (hk : KOK f K B w) (hn : T.es.length ≤ 7000) (i : Nat) (s : Sl) (x : Option Addr) (hs : T.es[i]? = some (s, x)) :
    Calls Try.prog 38 #[.pointer (some ⟨eb, 0, none⟩), .slice s.a s.n s.c] w (NthPost T.es (i + 1) w) := by
  obtain ⟨hi, he⟩ := List.getElem?_eq_some_iff.1 hs
  have hK : K s := by
    have := Ok.keys h T.es[i] (List.getElem_mem hi)
    rw [he] at this; exact this
  have := eafter_any f K B eb T s w h hk hn (hk s hK).1
  have hnx := fidx_next h.core.asc hi
  have hfe : f T.es[i].1 = f s := by rw [he]
  rw [hfe] at hnx
  rw [hnx] at this
  exact this.mono (fun e w' hp => hp.nth)

theorem nilVL (w : World) : VL w Sl.nil (([] : List Bool).map Value.bool) := ⟨rfl, fun _ => rfl, fun a h => (nomatch h)⟩

theorem Lst.frameF {F : Nat → Prop} {w w' : World} {s : Sl} {ss : List Sl} (h : Lst w s ss) (hf : Fr F w w') (hn : ∀ k, k < w.heap.size → ¬ F k) : Lst w' s ss :=
  h.frame (hf.mono (fun k hk e => hn k hk e))
end Go.Proofs.Qxb6615626a.BV
