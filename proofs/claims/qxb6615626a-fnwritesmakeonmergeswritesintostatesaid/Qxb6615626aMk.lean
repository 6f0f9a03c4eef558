/-
  MakeOn's loop: what it works on.
-/
import Derived.Test.Qxb6615626aDel6
import Derived.Test.Qxb6615626aLawv
namespace Go.Proofs.Qxb6615626a
set_option linter.unusedVariables false

section
variable (f : Sl → List UInt8)
/-- one write made on the entries -/
def stepW (es : List (Sl × Option Addr)) (e : Sl × Option Addr) : List (Sl × Option Addr) := match e.2 with
  | none => del f (f e.1) es
  | some x => ins f e.1 (some x) es
/-- writes made one after the other -/
def mkAll (es ws : List (Sl × Option Addr)) : List (Sl × Option Addr) := ws.foldl (stepW f) es
variable {f}

theorem mkAll_snoc (es ws : List (Sl × Option Addr)) (e : Sl × Option Addr) : mkAll f es (ws ++ [e]) = stepW f (mkAll f es ws) e := by unfold mkAll; rw [List.foldl_append]; rfl

theorem length_stepW (es : List (Sl × Option Addr)) (e : Sl × Option Addr) : (stepW f es e).length ≤ es.length + 1 := by
  unfold stepW
  split
  · have := (del_sub (f := f) (f e.1) es).length_le; omega
  · rename_i x _; have := (length_ins (f := f) e.1 (some x) es).2; omega

theorem length_mkAll : ∀ (ws es : List (Sl × Option Addr)), (mkAll f es ws).length ≤ es.length + ws.length
  | [], es => by simp [mkAll]
  | e :: ws, es => by
    have h1 := length_mkAll ws (stepW f es e)
    have h2 := length_stepW (f := f) es e
    show (mkAll f (stepW f es e) ws).length ≤ _
    simp only [List.length_cons]; omega
end
end Go.Proofs.Qxb6615626a

namespace Go.Proofs.Qxb6615626a.BV
open Go.RowKit

/-- the tree's blocks, but for the editor's -/
def Tr.blk (T : Tr) (k : Nat) : Prop := (∃ L ∈ T.ls, L.own k) ∨ (∃ I, T.inn = some I ∧ I.own k)

theorem Rd.keep {F : Nat → Prop} {w w' : World} {T : Tr} (h : Rd w T) (hf : Fr F w w') (hn : ∀ k, T.blk k → ¬ F k) : Rd w' T :=
  h.fr hf (fun L hL k hk => hn k (.inl ⟨L, hL, hk⟩)) (fun I hI k hk => hn k (.inr ⟨I, hI, hk⟩))

theorem Rd.blk_lt {w : World} {T : Tr} (h : Rd w T) : ∀ k, T.blk k → k < w.heap.size := by
  rintro k (⟨L, hL, hk⟩ | ⟨I, hI, hk⟩)
  · exact (h.lf L hL).lt k hk
  · rcases h.sh with ⟨g, _⟩ | ⟨J, g1, g2, _⟩
    · rw [g] at hI; cases hI
    · rw [g1] at hI; cases hI; exact g2.lt k hk

theorem CurAt.glt {w : World} {cb g : Nat} {T : Tr} {p : Nat} (h : CurAt w cb g T p) : CurAt w cb cb T p ∨ g < w.heap.size := by
  cases h with
  | done a c h hp => exact .inl (.done a c h hp)
  | one cap L hi hl hp h => exact .inr h.row.lt
  | two cap I A L C i hi hl hp hlt h => exact .inr h.row.lt

/-- all that MakeOn's loop works on, at the p-th write; q: the steps counted -/
structure MJ (f : Sl → List UInt8) (K : Sl → Prop) (B : Nat) (w0 : World) (eb : Nat) (Te0 Tw : Tr) (cb g : Nat) (st : Option Nat) (wr : World) (Te : Tr) (p q : Nat) : Prop where
  ok : Ok f K B wr eb Te
  kok : KOK f K B wr
  es : Te.es = mkAll f Te0.es (Tw.es.take p)
  rd : Rd wr Tw
  cur : CurAt wr cb g Tw p
  ap : Apart Tw cb g
  dis : ∀ k, Te.own eb k → ¬ Tw.blk k ∧ k ≠ cb ∧ k ≠ g ∧ st ≠ some k
  sep : ∀ k, st = some k → k ≠ cb ∧ k ≠ g ∧ ¬ Tw.blk k ∧ B ≤ k
  prot : ∀ k, (Tw.blk k ∨ k = cb ∨ k = g ∨ st = some k) → k < wr.heap.size
  fr : Fr (fun k => Te0.own eb k ∨ st = some k) w0 wr
  own : ∀ k, Te.own eb k → Te0.own eb k ∨ w0.heap.size ≤ k
  new : w0.heap.size ≤ cb ∧ w0.heap.size ≤ g
  bw : B ≤ w0.heap.size
  cnt : ∀ sb, st = some sb → wr.heap[sb]? = some (.cells #[.int .i64 q] 3 (0, 0))

section
variable {f : Sl → List UInt8} {K : Sl → Prop} {B : Nat} {w0 : World} {eb : Nat} {Te0 Tw : Tr} {cb g : Nat} {st : Option Nat} {wr w' : World} {Te Te' : Tr} {p q : Nat}

theorem MJ.keep (h : MJ f K B w0 eb Te0 Tw cb g st wr Te p q) (hf : Fr (fun _ => False) wr w') : MJ f K B w0 eb Te0 Tw cb g st w' Te p q :=
  ⟨h.ok.fr hf (fun _ _ e => e), h.kok.fr hf (fun _ _ e => e), h.es, h.rd.keep hf (fun _ _ e => e), h.cur.fr hf (fun e => e) (fun e => e), h.ap, h.dis, h.sep, fun k hk => Nat.lt_of_lt_of_le (h.prot k hk) hf.size, h.fr.trans hf (fun _ _ e => e.elim), h.own, h.new, h.bw,
    fun sb hs => by rw [hf.block sb (h.prot sb (.inr (.inr (.inr hs)))) (fun e => e)]; exact h.cnt sb hs⟩

/-- a write has been made -/
theorem MJ.edit (h : MJ f K B w0 eb Te0 Tw cb g st wr Te p q) (hp : p < Tw.es.length) (ho : Ok f K B w' eb Te') (hes : Te'.es = stepW f Te.es Tw.es[p]) (hf : Fr (Te.own eb) wr w') (hown : ∀ k, Te'.own eb k → Te.own eb k ∨ wr.heap.size ≤ k) :
    Ok f K B w' eb Te' ∧ KOK f K B w' ∧ Te'.es = mkAll f Te0.es (Tw.es.take (p + 1)) ∧ Rd w' Tw ∧ CurAt w' cb g Tw p ∧ (∀ k, Te'.own eb k → ¬ Tw.blk k ∧ k ≠ cb ∧ k ≠ g ∧ st ≠ some k) ∧ (∀ k, (Tw.blk k ∨ k = cb ∨ k = g ∨ st = some k) → k < w'.heap.size) ∧
      Fr (fun k => Te0.own eb k ∨ st = some k) w0 w' ∧ (∀ k, Te'.own eb k → Te0.own eb k ∨ w0.heap.size ≤ k) ∧ (∀ sb, st = some sb → w'.heap[sb]? = some (.cells #[.int .i64 q] 3 (0, 0))) := by
  have hsz := hf.size
  have hsz0 := h.fr.size
  refine ⟨ho, h.kok.fr hf (fun k hk e => by have := h.ok.core.low k e; omega), ?_, h.rd.keep hf (fun k hk e => (h.dis k e).1 hk), h.cur.fr hf (fun e => (h.dis cb e).2.1 rfl) (fun e => (h.dis g e).2.2.1 rfl), fun k hk => ?_, fun k hk => Nat.lt_of_lt_of_le (h.prot k hk) hsz, h.fr.trans hf (fun k hk e => ?_), fun k hk => ?_, fun sb hs => ?_⟩
  · rw [hes, h.es, List.take_succ_eq_append_getElem hp, mkAll_snoc]
  · rcases hown k hk with e | e
    · exact h.dis k e
    · refine ⟨fun hb => ?_, fun hb => ?_, fun hb => ?_, fun hb => ?_⟩
      · have := h.prot k (.inl hb); omega
      · have := h.prot k (.inr (.inl hb)); omega
      · have := h.prot k (.inr (.inr (.inl hb))); omega
      · have := h.prot k (.inr (.inr (.inr hb))); omega
  · rcases h.own k e with e | e
    · exact .inl e
    · omega
  · rcases hown k hk with e | e
    · exact h.own k e
    · exact .inr (by omega)
  · rw [hf.block sb (h.prot sb (.inr (.inr (.inr hs)))) (fun e => (h.dis sb e).2.2.2 hs)]; exact h.cnt sb hs
end

/-- between a write and the cursor's next step -/
structure MH (f : Sl → List UInt8) (K : Sl → Prop) (B : Nat) (w0 : World) (eb : Nat) (Te0 Tw : Tr) (cb g : Nat) (st : Option Nat) (wr : World) (Te : Tr) (p q : Nat) : Prop where
  ok : Ok f K B wr eb Te
  kok : KOK f K B wr
  es : Te.es = mkAll f Te0.es (Tw.es.take (p + 1))
  rd : Rd wr Tw
  cur : CurAt wr cb g Tw p
  ap : Apart Tw cb g
  dis : ∀ k, Te.own eb k → ¬ Tw.blk k ∧ k ≠ cb ∧ k ≠ g ∧ st ≠ some k
  sep : ∀ k, st = some k → k ≠ cb ∧ k ≠ g ∧ ¬ Tw.blk k ∧ B ≤ k
  prot : ∀ k, (Tw.blk k ∨ k = cb ∨ k = g ∨ st = some k) → k < wr.heap.size
  fr : Fr (fun k => Te0.own eb k ∨ st = some k) w0 wr
  own : ∀ k, Te.own eb k → Te0.own eb k ∨ w0.heap.size ≤ k
  new : w0.heap.size ≤ cb ∧ w0.heap.size ≤ g
  bw : B ≤ w0.heap.size
  cnt : ∀ sb, st = some sb → wr.heap[sb]? = some (.cells #[.int .i64 q] 3 (0, 0))

section
variable {f : Sl → List UInt8} {K : Sl → Prop} {B : Nat} {w0 : World} {eb : Nat} {Te0 Tw : Tr} {cb g : Nat} {st : Option Nat} {wr w' : World} {Te Te' : Tr} {p q : Nat} {e : Ending}

theorem MJ.set (h : MJ f K B w0 eb Te0 Tw cb g st wr Te p q) (hp : p < Tw.es.length) {x : Addr} (hx : Tw.es[p].2 = some x) (post : SetPost f K B eb Te Tw.es[p].1 (some x) wr e w') :
    (∃ v1 v2, e = .returned (.tuple #[v1, v2])) ∧ ∃ Te', MH f K B w0 eb Te0 Tw cb g st w' Te' p q := by
  obtain ⟨h1, Te', h2, h3, h4, h5⟩ := post
  obtain ⟨a1, a2, a3, a4, a5, a6, a7, a8, a9, a10⟩ := h.edit hp h2 (by rw [h3]; unfold stepW; rw [hx]) h4 h5
  exact ⟨h1, Te', a1, a2, a3, a4, a5, h.ap, a6, h.sep, a7, a8, a9, h.new, h.bw, a10⟩

theorem MJ.del (h : MJ f K B w0 eb Te0 Tw cb g st wr Te p q) (hp : p < Tw.es.length) (hx : Tw.es[p].2 = none) (post : DelPost f K B eb Te Tw.es[p].1 wr e w') :
    (∃ b : Bool, e = .returned (.bool b)) ∧ ∃ Te', MH f K B w0 eb Te0 Tw cb g st w' Te' p q := by
  obtain ⟨h1, Te', h2, h3, h4, h5⟩ := post
  obtain ⟨a1, a2, a3, a4, a5, a6, a7, a8, a9, a10⟩ := h.edit hp h2 (by rw [h3]; unfold stepW; rw [hx]) h4 h5
  exact ⟨h1, Te', a1, a2, a3, a4, a5, h.ap, a6, h.sep, a7, a8, a9, h.new, h.bw, a10⟩

theorem MH.next (h : MH f K B w0 eb Te0 Tw cb g st wr Te p q) (hf : Fr (fun k => k = cb ∨ k = g) wr w') (hc : CurAt w' cb g Tw (p + 1)) : MJ f K B w0 eb Te0 Tw cb g st w' Te (p + 1) q := by
  have ho : ∀ k, Te.own eb k → ¬ (k = cb ∨ k = g) := fun k hk e => e.elim (h.dis k hk).2.1 (h.dis k hk).2.2.1
  refine ⟨h.ok.fr hf ho, h.kok.fr hf (fun k hk e => ?_), h.es, h.rd.fr hf (fun L hL k hk e => e.elim (h.ap.lf L hL k hk).1 (h.ap.lf L hL k hk).2) (fun I hI k hk e => e.elim (h.ap.inn I hI k hk).1 (h.ap.inn I hI k hk).2), hc, h.ap, h.dis, h.sep, fun k hk => Nat.lt_of_lt_of_le (h.prot k hk) hf.size,
    h.fr.trans hf (fun k hk e => ?_), h.own, h.new, h.bw, fun sb hs => by rw [hf.block sb (h.prot sb (.inr (.inr (.inr hs)))) (fun e => e.elim (h.sep sb hs).1 (h.sep sb hs).2.1)]; exact h.cnt sb hs⟩
  · have := h.new; have := h.bw; rcases e with e | e <;> omega
  · have := h.new; rcases e with e | e <;> omega

theorem MJ.bump (h : MJ f K B w0 eb Te0 Tw cb g st wr Te p q) {sb : Nat} (hs : st = some sb) (hf : Fr (fun k => k = sb) wr w') (hc : w'.heap[sb]? = some (.cells #[.int .i64 ((q + 1 : Nat) : Int)] 3 (0, 0))) : MJ f K B w0 eb Te0 Tw cb g st w' Te p (q + 1) := by
  have hsp := h.sep sb hs
  refine ⟨h.ok.fr hf (fun k hk e => (h.dis k hk).2.2.2 (by rw [e]; exact hs)), h.kok.fr hf (fun k hk e => by omega), h.es, h.rd.keep hf (fun k hk e => hsp.2.2.1 (e ▸ hk)), h.cur.fr hf (fun e => hsp.1 e.symm) (fun e => hsp.2.1 e.symm), h.ap, h.dis, h.sep, fun k hk => Nat.lt_of_lt_of_le (h.prot k hk) hf.size,
    h.fr.trans hf (fun k hk e => .inr (by rw [e]; exact hs)), h.own, h.new, h.bw, fun sb' hs' => ?_⟩
  rw [hs] at hs'; cases hs'; exact hc

theorem MJ.start {w : World} (hE : Ok f K B w eb Te0) (hk : KOK f K B w) (hr : Rd w Tw) (hdis : ∀ k, Te0.own eb k → ¬ Tw.blk k ∧ st ≠ some k) (hsep : ∀ k, st = some k → ¬ Tw.blk k ∧ B ≤ k ∧ k < w.heap.size) (hcnt : ∀ sb, st = some sb → w.heap[sb]? = some (.cells #[.int .i64 0] 3 (0, 0)))
    {w1 : World} (hcb : w.heap.size ≤ cb) (hg : w.heap.size ≤ g) (hf : Fr (fun _ => False) w w1) (hc : CurAt w1 cb g Tw 0) (hgl : g < w1.heap.size) : MJ f K B w eb Te0 Tw cb g st w1 Te0 0 0 := by
  have hlt := hr.blk_lt
  have hol := hE.own_lt
  have hB : B ≤ w.heap.size := Nat.le_trans (hE.core.low eb (.inl rfl)) (Nat.le_of_lt hE.core.elt)
  refine ⟨hE.fr hf (fun _ _ e => e), hk.fr hf (fun _ _ e => e), by rw [List.take_zero]; rfl, hr.keep hf (fun _ _ e => e), hc, ⟨fun L hL k hk => ?_, fun I hI k hk => ?_⟩, fun k hk => ?_, fun k hs => ?_, fun k hk => ?_, hf.mono (fun _ _ e => e.elim), fun k hk => .inl hk, ⟨hcb, hg⟩, hB, fun sb hs => ?_⟩
  · have := hlt k (.inl ⟨L, hL, hk⟩); omega
  · have := hlt k (.inr ⟨I, hI, hk⟩); omega
  · have := hol k hk
    exact ⟨(hdis k hk).1, by omega, by omega, (hdis k hk).2⟩
  · have := hsep k hs; exact ⟨by omega, by omega, this.1, this.2.1⟩
  · rcases hk with e | e | e | e
    · exact Nat.lt_of_lt_of_le (hlt k e) hf.size
    · rw [e]; exact hc.lt
    · rw [e]; exact hgl
    · exact Nat.lt_of_lt_of_le (hsep k e).2.2 hf.size
  · rw [hf.block sb (hsep sb hs).2.2 (fun e => e)]; exact hcnt sb hs
end
end Go.Proofs.Qxb6615626a.BV
