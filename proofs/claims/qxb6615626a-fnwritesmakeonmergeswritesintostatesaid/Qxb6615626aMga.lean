/-
  Slices that a function appends to, in its own slots.
-/
import Derived.Test.Qxb6615626aMg
import Derived.Test.Qxb6615626aLst2
namespace Go.Proofs.Qxb6615626a.BV
open Go.RowKit
set_option linter.unusedVariables false

/-- the slice s is nil and xs is empty, or s is a row of xs in a block from B on -/
def AS (w : World) (B : Nat) (e : TypeId) (s : Sl) (xs : List Value) : Prop :=
  s.n = xs.length ∧ ((xs = [] ∧ s.a = none ∧ s.c = 0) ∨ ∃ g, B ≤ g ∧ s.a = some ⟨g, 0, none⟩ ∧ Row w g e 1 xs.length s.c xs)

theorem AS.fr {F : Nat → Prop} {w w' : World} {B : Nat} {e : TypeId} {s : Sl} {xs : List Value} (h : AS w B e s xs) (hf : Fr F w w') (hn : ∀ g, s.a = some ⟨g, 0, none⟩ → ¬ F g) : AS w' B e s xs := by
  obtain ⟨h1, h2⟩ := h
  refine ⟨h1, h2.imp id ?_⟩
  rintro ⟨g, g1, g2, g3⟩
  exact ⟨g, g1, g2, g3.fr hf (hn g g2)⟩

theorem AS.lt {w : World} {B : Nat} {e : TypeId} {s : Sl} {xs : List Value} (h : AS w B e s xs) {g : Nat} (hg : s.a = some ⟨g, 0, none⟩) : B ≤ g ∧ g < w.heap.size := by
  rcases h.2 with ⟨_, h2, _⟩ | ⟨g', g1, g2, g3⟩
  · rw [h2] at hg; cases hg
  · rw [g2] at hg; cases hg; exact ⟨g1, g3.lt⟩

theorem AS.vl {w : World} {B : Nat} {e : TypeId} {s : Sl} {xs : List Value} (h : AS w B e s xs) : VL w s xs := by
  obtain ⟨h1, h2⟩ := h
  obtain ⟨a, n, c⟩ := s
  simp only at h1 h2
  rcases h2 with ⟨h2, h3, h4⟩ | ⟨g, g1, g2, g3⟩
  · subst h2; subst h3; subst h1
    exact ⟨rfl, fun _ => rfl, fun a h => (nomatch h)⟩
  · subst g2; subst h1
    exact VL.row g3

theorem AS.nil (w : World) (B : Nat) (e : TypeId) : AS w B e Sl.nil [] := ⟨rfl, .inl ⟨rfl, rfl, rfl⟩⟩

theorem wpList_append_as {P : Program} {w : World} {ops : Array Oper} {rest : List Oper} {o : Oper} {a : Act} {Q : Exit → Act → World → Prop} (hgd : o.guard = none) (so x : Operand) (t : TypeId)
    (ho : o.op = .call { callee := .builtin .append, args := #[so, x], argTypes := #[t, t] })
    (e : TypeId) (i : TypeInfo) (z : Value) (bytes : Nat) (ht : P.underlying t = some (.slice e)) (hi : P.info? e = some i) (hz : i.zero = some z)
    (hsize : i.size = 1) (hby : i.bytes = bytes) (hzs : z.cells.size = 1) (hbb : bytes ≤ 100)
    (B : Nat) (s : Sl) (xs : List Value) (hs : a.eval so = .slice s.a s.n s.c) (hA : AS w B e s xs) (hB : B ≤ w.heap.size)
    (ad : Addr) (c : Nat) (v : Value) (hx : a.eval x = .slice (some ad) 1 c) (hv : ∀ j u, [v][j]? = some u → w.cell? (ad.add j) = some u) (h1 : v.oneCell' = true) (hlen : xs.length ≤ 100000)
    (h : ∀ s' w', AS w' B e s' (xs ++ [v]) → Fr (fun k => s.a = some ⟨k, 0, none⟩) w w' → (s'.a = s.a ∨ ∃ g, s'.a = some ⟨g, 0, none⟩ ∧ w.heap.size ≤ g) → wpList P ops Q rest (a.put o.dst (.slice s'.a s'.n s'.c)) w') : wpList P ops Q (o :: rest) a w := by
  obtain ⟨sa, sn, sc⟩ := s
  obtain ⟨e1, e2⟩ := hA
  simp only at e1 e2 hs h
  rcases e2 with ⟨rfl, rfl, rfl⟩ | ⟨g, g1, rfl, g3⟩
  · subst e1
    refine wpList_append_fresh hgd so x t ho e i z 1 bytes ht hi hz hsize hby hzs (by decide) hs ad 1 c [v] hx rfl hv (by decide) (by unfold maxLen; omega) (by omega) ?_
    intro g' cap' w' hr hf hg
    exact h ⟨some ⟨g', 0, none⟩, 1, cap'⟩ w' ⟨rfl, .inr ⟨g', by omega, rfl, hr⟩⟩ (hf.mono (fun _ _ e => e.elim)) (.inr ⟨g', rfl, hg⟩)
  · subst e1
    have hb2 : (xs.length + 1) * bytes ≤ 100001 * 100 := Nat.mul_le_mul (by omega) hbb
    have h1' : ∀ u ∈ [v], u.oneCell' = true := fun u hu => by
      have : u = v := by simpa using hu
      rw [this]; exact h1
    refine wpList_append_row hgd so x t ho e i z 1 bytes ht hi hz hsize hby hzs (by decide) g xs.length sc xs hs g3 ad 1 c [v] hx rfl hv h1' (by unfold maxLen; omega) (by omega) ?_
    intro g' cap' w' hr hf hg
    refine h ⟨some ⟨g', 0, none⟩, xs.length + 1, cap'⟩ w' ⟨by simp, .inr ⟨g', ?_, rfl, by simpa using hr⟩⟩ (hf.mono (fun _ _ e => by rw [e])) ?_
    · rcases hg with rfl | hg
      · exact g1
      · omega
    · rcases hg with rfl | hg
      · exact .inl rfl
      · exact .inr ⟨g', rfl, hg⟩

/-- the keys and values gathered so far (in s1, s2), and the flags in the block lab -/
structure ML (w wr : World) (s1 s2 : Sl) (c1 c2 : List (Sl × Option Addr)) (lab n : Nat) (bs : List Bool) : Prop where
  a1 : AS wr w.heap.size 23 s1 (c1.map fun e => .slice e.1.a e.1.n e.1.c)
  a2 : AS wr w.heap.size 48 s2 (c2.map fun e => .pointer e.2)
  ne : s1.a = none ∨ s1.a ≠ s2.a
  fr : Fr (fun _ => False) w wr
  ll : VL wr ⟨some ⟨lab, 0, none⟩, n, n⟩ (bs.map Value.bool)
  lt : lab < wr.heap.size
  n1 : s1.a ≠ some ⟨lab, 0, none⟩
  n2 : s2.a ≠ some ⟨lab, 0, none⟩

section
variable {w wr : World} {s1 s2 : Sl} {c1 c2 : List (Sl × Option Addr)} {lab n : Nat} {bs : List Bool}

theorem ML.keep (h : ML w wr s1 s2 c1 c2 lab n bs) {w' : World} (hf : Fr (fun _ => False) wr w') : ML w w' s1 s2 c1 c2 lab n bs :=
  ⟨h.a1.fr hf (fun _ _ e => e), h.a2.fr hf (fun _ _ e => e), h.ne, h.fr.trans hf (fun _ _ e => e), h.ll.frame hf, Nat.lt_of_lt_of_le h.lt hf.size, h.n1, h.n2⟩

theorem ML.app1 (h : ML w wr s1 s2 c1 c2 lab n bs) {wa w' : World} (ha : Fr (fun _ => False) wr wa) {s' : Sl} (e : Sl × Option Addr) (hA : AS w' w.heap.size 23 s' ((c1.map fun e => Value.slice e.1.a e.1.n e.1.c) ++ [.slice e.1.a e.1.n e.1.c])) (hf : Fr (fun k => s1.a = some ⟨k, 0, none⟩) wa w')
    (hs : s'.a = s1.a ∨ ∃ g, s'.a = some ⟨g, 0, none⟩ ∧ wa.heap.size ≤ g) : ML w w' s' s2 (c1 ++ [e]) c2 lab n bs := by
  have k := h.keep ha
  have hl := k.lt
  have hne : ∀ g, s2.a = some ⟨g, 0, none⟩ → ¬ s1.a = some ⟨g, 0, none⟩ := fun g h2 h1 => by
    rcases k.ne with e | e
    · rw [e] at h1; cases h1
    · exact e (by rw [h1, h2])
  refine ⟨by rw [List.map_append]; exact hA, k.a2.fr hf hne, ?_, k.fr.trans hf (fun i hi hg => by have := (k.a1.lt hg).1; omega), k.ll.one hf k.n1, Nat.lt_of_lt_of_le k.lt hf.size, ?_, k.n2⟩
  · right
    intro he
    rcases hs with hs | ⟨g, hg, hg2⟩
    · rcases hA.2 with ⟨h0, _⟩ | ⟨g, g1, g2, g3⟩
      · simp at h0
      · exact hne g (by rw [← he]; exact g2) (by rw [← hs]; exact g2)
    · have := (k.a2.lt (by rw [← he]; exact hg)).2
      omega
  · rcases hs with hs | ⟨g, hg, hg2⟩
    · rw [hs]; exact k.n1
    · rw [hg]; intro he
      have : g = lab := by injection he with he; injection he
      omega

theorem ML.app2 (h : ML w wr s1 s2 c1 c2 lab n bs) (h1 : c1 ≠ []) {wa w' : World} (ha : Fr (fun _ => False) wr wa) {s' : Sl} (e : Sl × Option Addr) (hA : AS w' w.heap.size 48 s' ((c2.map fun e => Value.pointer e.2) ++ [.pointer e.2])) (hf : Fr (fun k => s2.a = some ⟨k, 0, none⟩) wa w')
    (hs : s'.a = s2.a ∨ ∃ g, s'.a = some ⟨g, 0, none⟩ ∧ wa.heap.size ≤ g) : ML w w' s1 s' c1 (c2 ++ [e]) lab n bs := by
  have k := h.keep ha
  have hl := k.lt
  have hne : ∀ g, s1.a = some ⟨g, 0, none⟩ → ¬ s2.a = some ⟨g, 0, none⟩ := fun g h2 h1 => by
    rcases k.ne with e | e
    · rw [e] at h2; cases h2
    · exact e (by rw [h1, h2])
  refine ⟨k.a1.fr hf hne, by rw [List.map_append]; exact hA, ?_, k.fr.trans hf (fun i hi hg => by have := (k.a2.lt hg).1; omega), k.ll.one hf k.n2, Nat.lt_of_lt_of_le k.lt hf.size, k.n1, ?_⟩
  · right
    intro he
    rcases hs with hs | ⟨g, hg, hg2⟩
    · rcases hA.2 with ⟨h0, _⟩ | ⟨g, g1, g2, g3⟩
      · simp at h0
      · exact hne g (by rw [he]; exact g2) (by rw [← hs]; exact g2)
    · have := (k.a1.lt (by rw [he]; exact hg)).2
      omega
  · rcases hs with hs | ⟨g, hg, hg2⟩
    · rw [hs]; exact k.n2
    · rw [hg]; intro he
      have : g = lab := by injection he with he; injection he
      omega
end
end Go.Proofs.Qxb6615626a.BV
