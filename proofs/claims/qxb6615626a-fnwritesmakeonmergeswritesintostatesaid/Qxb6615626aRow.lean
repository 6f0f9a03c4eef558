/-
  Rows (a slice's own array) and frames: what stays.
-/
import Derived.Test.Qxb6615626aBase
namespace Go.Proofs.Qxb6615626a
open Go.RowKit
set_option linter.unusedVariables false

/-! ### frames -/

/-- w' is w but for the old blocks of F, new blocks and draws -/
structure Fr (F : Nat → Prop) (w w' : World) : Prop where
  os : w'.os = w.os
  tape : w'.tape = w.tape
  output : w'.output = w.output
  size : w.heap.size ≤ w'.heap.size
  block : ∀ k, k < w.heap.size → ¬ F k → w'.heap[k]? = w.heap[k]?

theorem Fr.refl (F : Nat → Prop) (w : World) : Fr F w w := ⟨rfl, rfl, rfl, Nat.le_refl _, fun _ _ _ => rfl⟩
theorem Fr.trans {F G : Nat → Prop} {a b c : World} (h : Fr F a b) (k : Fr G b c) (hG : ∀ i, i < a.heap.size → G i → F i) : Fr F a c :=
  ⟨k.os.trans h.os, k.tape.trans h.tape, k.output.trans h.output, Nat.le_trans h.size k.size,
    fun i hi hf => (k.block i (Nat.lt_of_lt_of_le hi h.size) (fun g => hf (hG i hi g))).trans (h.block i hi hf)⟩
theorem Fr.mono {F G : Nat → Prop} {a b : World} (h : Fr F a b) (hG : ∀ i, i < a.heap.size → F i → G i) : Fr G a b :=
  ⟨h.os, h.tape, h.output, h.size, fun i hi hf => h.block i hi (fun g => hf (hG i hi g))⟩
theorem Fr.drewN {F : Nat → Prop} {a b : World} (h : Fr F a b) (n : Nat) : Fr F a (b.drewN n) := ⟨h.os, h.tape, h.output, h.size, h.block⟩
theorem Fr.drew {F : Nat → Prop} {a b : World} (h : Fr F a b) : Fr F a b.drew := ⟨h.os, h.tape, h.output, h.size, h.block⟩
theorem Fr.alloc {F : Nat → Prop} {a b : World} (h : Fr F a b) (o : Obj) : Fr F a (b.alloc o) :=
  h.trans (G := fun _ => False) ⟨rfl, rfl, rfl, by simp, fun k hk _ => Below.heap_alloc _ _ _ hk⟩ (fun _ _ g => g.elim)
theorem Fr.setCell {F : Nat → Prop} {a b : World} (h : Fr F a b) (p : Addr) (u : Value) (hp : p.block < a.heap.size → F p.block) : Fr F a (b.setCell p u) :=
  h.trans (G := fun k => k = p.block) ⟨rfl, rfl, rfl, by simp [World.setCell], fun k _ hk => Below.heap_setCell _ _ _ _ hk⟩ (fun i hi g => by subst g; exact hp hi)
theorem Fr.setRow {F : Nat → Prop} {a b : World} (h : Fr F a b) (g : Nat) (cs : Array Value) (hp : g < a.heap.size → F g) : Fr F a (b.setRow g cs) :=
  h.trans (G := fun k => k = g) ⟨rfl, rfl, rfl, by simp [World.setRow], fun k _ hk => setRow_other b g k cs hk⟩ (fun i hi e => by subst e; exact hp hi)
theorem Fr.below {F : Nat → Prop} {a b : World} {B : Nat} (h : Fr F a b) (hB : ∀ k, F k → B ≤ k) (hBs : B ≤ a.heap.size) : Below B a b :=
  ⟨h.os, h.tape, h.output, h.size, fun k hk => h.block k (Nat.lt_of_lt_of_le hk hBs) (fun f => absurd (hB k f) (by omega))⟩
theorem Fr.cell {F : Nat → Prop} {a b : World} (h : Fr F a b) {p : Addr} (hp : p.block < a.heap.size) (hf : ¬ F p.block) : b.cell? p = a.cell? p := World.cell?_of_block (h.block _ hp hf)

theorem Byt.below {B : Nat} {w w' : World} {s : Sl} {l : List UInt8} (h : Byt w s l) (hb : Below B w w') (hs : s.blk < B) : Byt w' s l :=
  h.of_cells fun o _ => hb.cell (p := ⟨s.blk, o, none⟩) hs

/-! ### rows -/

/-- the block g holds a row of cap elements of sz cells, the first n elements of which are xs -/
def Row (w : World) (g : Nat) (e : TypeId) (sz n cap : Nat) (xs : List Value) : Prop :=
  xs.length = n * sz ∧ ∃ cur : Array Value, w.heap[g]? = some (.cells cur e (0, 0)) ∧ n ≤ cap ∧ cap ≤ maxLen ∧ cur.size = cap * sz ∧ cur.toList.take (n * sz) = xs

section
variable {w w' : World} {g : Nat} {e : TypeId} {sz n cap : Nat} {xs : List Value}

theorem Row.lt (h : Row w g e sz n cap xs) : g < w.heap.size := by
  obtain ⟨_, cur, hg, _⟩ := h; exact (Array.getElem?_eq_some_iff.1 hg).1

theorem Row.of_block (h : Row w g e sz n cap xs) (hb : w'.heap[g]? = w.heap[g]?) : Row w' g e sz n cap xs := by
  obtain ⟨hl, cur, hg, r⟩ := h; exact ⟨hl, cur, by rw [hb]; exact hg, r⟩

theorem Row.fr {F : Nat → Prop} (h : Row w g e sz n cap xs) (hf : Fr F w w') (hg : ¬ F g) : Row w' g e sz n cap xs := h.of_block (hf.block g h.lt hg)

theorem Row.cell (h : Row w g e sz n cap xs) {j : Nat} (hj : j < xs.length) : w.cell? ⟨g, j, none⟩ = some xs[j] := by
  obtain ⟨hl, cur, hg, hn, hm, hs, ht⟩ := h
  have hj2 : j < n * sz := by omega
  have hle : n * sz ≤ cap * sz := Nat.mul_le_mul_right _ hn
  subst ht
  simp only [World.cell?, hg, Option.isSome_none, Bool.false_eq_true, if_false]
  rw [List.getElem_take, Array.getElem?_eq_getElem (by omega)]
  simp

theorem Row.cell? (h : Row w g e sz n cap xs) {j : Nat} {u : Value} (hj : xs[j]? = some u) : w.cell? ⟨g, j, none⟩ = some u := by
  obtain ⟨hl, hx⟩ := List.getElem?_eq_some_iff.1 hj
  rw [h.cell hl, hx]

theorem Row.frozen (h : Row w g e sz n cap xs) (j : Nat) : w.frozen? ⟨g, j, none⟩ = false := by
  obtain ⟨hl, cur, hg, r⟩ := h
  simp [World.frozen?, hg]

theorem Row.setCell (h : Row w g e sz n cap xs) {j : Nat} (hj : j < xs.length) (u : Value) : Row (w.setCell ⟨g, j, none⟩ u) g e sz n cap (xs.set j u) := by
  obtain ⟨hl, cur, hg, hn, hm, hs, ht⟩ := h
  refine ⟨by simpa using hl, cur.setIfInBounds j u, ?_, hn, hm, by simpa using hs, ?_⟩
  · simp [World.setCell, Array.getElem?_modify, hg]
  · rw [Array.toList_setIfInBounds, List.take_set, ht]

theorem Row.setCell_other (h : Row w g e sz n cap xs) (p : Addr) (u : Value) (hp : g ≠ p.block) : Row (w.setCell p u) g e sz n cap xs := h.of_block (Below.heap_setCell _ _ _ _ hp)
theorem Row.alloc (h : Row w g e sz n cap xs) (o : Obj) : Row (w.alloc o) g e sz n cap xs := h.of_block (Below.heap_alloc _ _ _ h.lt)
theorem Row.setRow_other (h : Row w g e sz n cap xs) (k : Nat) (cs : Array Value) (hk : g ≠ k) : Row (w.setRow k cs) g e sz n cap xs := h.of_block (Go.setRow_other w k g cs hk)
theorem Row.drewN (h : Row w g e sz n cap xs) (k : Nat) : Row (w.drewN k) g e sz n cap xs := h
theorem Row.drew (h : Row w g e sz n cap xs) : Row w.drew g e sz n cap xs := h
/-- fewer elements -/
theorem Row.short (h : Row w g e sz n cap xs) (m : Nat) (hm : m ≤ n) : Row w g e sz m cap (xs.take (m * sz)) := by
  obtain ⟨hl, cur, hg, hn, hmx, hs, ht⟩ := h
  have hle : m * sz ≤ n * sz := Nat.mul_le_mul_right _ hm
  refine ⟨by rw [List.length_take]; omega, cur, hg, by omega, hmx, hs, ?_⟩
  rw [← ht, List.take_take, Nat.min_eq_left hle]
theorem Row.new (w : World) (cur : Array Value) (e : TypeId) (sz n cap : Nat) (xs : List Value) (hl : xs.length = n * sz) (hn : n ≤ cap) (hm : cap ≤ maxLen) (hs : cur.size = cap * sz) (ht : cur.toList.take (n * sz) = xs) :
    Row (w.alloc (.cells cur e)) w.heap.size e sz n cap xs := ⟨hl, cur, heap_alloc_new w _, hn, hm, hs, ht⟩
end

theorem One.drop {xs : List Value} (h : ∀ v ∈ xs, v.oneCell' = true) (m : Nat) : ∀ v ∈ xs.drop m, v.oneCell' = true := fun v hv => h v (List.mem_of_mem_drop hv)
theorem One.take {xs : List Value} (h : ∀ v ∈ xs, v.oneCell' = true) (m : Nat) : ∀ v ∈ xs.take m, v.oneCell' = true := fun v hv => h v (List.mem_of_mem_take hv)
theorem Row.srcDrop {w : World} {g : Nat} {e : TypeId} {sz n cap : Nat} {xs : List Value} (h : Row w g e sz n cap xs) (m : Nat) : ∀ j (hj : j < (xs.drop m).length), w.cell? ⟨g, m + j, none⟩ = some (xs.drop m)[j] := by
  intro j hj
  rw [List.getElem_drop]
  exact h.cell _
theorem Row.srcTake {w : World} {g : Nat} {e : TypeId} {sz n cap : Nat} {xs : List Value} (h : Row w g e sz n cap xs) (m : Nat) : ∀ j (hj : j < (xs.take m).length), w.cell? ⟨g, 0 + j, none⟩ = some (xs.take m)[j] := by
  intro j hj
  rw [List.getElem_take, Nat.zero_add]
  exact h.cell _

/-- append of m elements to a row: in its place, or in a new block -/
theorem run_append_row {P : Program} (w : World) (t ty e : TypeId) (i : TypeInfo) (z : Value) (sz bytes : Nat) (ht : P.underlying t = some (.slice e)) (hi : P.info? e = some i) (hz : i.zero = some z)
    (hsize : i.size = sz) (hby : i.bytes = bytes) (hzs : z.cells.size = sz) (hsz : 0 < sz)
    (g n cap : Nat) (xs : List Value) (hrow : Row w g e sz n cap xs)
    (a : Addr) (m c : Nat) (news : List Value) (hl : news.length = m * sz) (hnews : ∀ j u, news[j]? = some u → w.cell? (a.add j) = some u) (h1 : ∀ u ∈ news, u.oneCell' = true)
    (h63 : n + m ≤ maxLen) (hbytes : (n + m) * bytes ≤ 140737488355328) :
    ∃ g' cap' w', (Builtin.append_ #[t, t] ty #[.slice (some ⟨g, 0, none⟩) n cap, .slice (some a) m c]).run P w = .ok (.slice (some ⟨g', 0, none⟩) (n + m) cap') w' ∧
      Row w' g' e sz (n + m) cap' (xs ++ news) ∧ Fr (· = g) w w' ∧ (g' = g ∨ w.heap.size ≤ g') := by
  subst hsize
  subst hby
  obtain ⟨hxl, cur, hg, hn, hm, hs, htk⟩ := hrow
  have hlen : (xs ++ news).length = (n + m) * i.size := by rw [List.length_append, hxl, hl, Nat.add_mul]
  by_cases hroom : n + m ≤ cap
  · have hfit : n * i.size + news.length ≤ cur.size := by rw [hl, hs, ← Nat.add_mul]; exact Nat.mul_le_mul_right _ hroom
    have hr := run_append_room (P := P) w t ty e i ht hi g n cap cur hg a m c news hl hnews h1 hroom hfit
    refine ⟨g, cap, _, hr, ⟨hlen, _, setRow_heap w g cur _ e _ hg, hroom, hm, ?_, ?_⟩, (Fr.refl _ w).setRow _ _ (fun _ => rfl), .inl rfl⟩
    · simp only [List.size_toArray, List.length_append, List.length_take, List.length_drop, Array.length_toList]
      omega
    · rw [htk, ← hlen]
      exact List.take_left
  · have holds : ∀ j u, xs[j]? = some u → w.cell? ((⟨g, 0, none⟩ : Addr).add j) = some u := fun j u hj => by
      rw [addr_add, Nat.zero_add]
      exact Row.cell? (w := w) (e := e) (sz := i.size) (n := n) (cap := cap) ⟨hxl, cur, hg, hn, hm, hs, htk⟩ hj
    have hr := run_append_grow (P := P) w t ty e i z ht hi hz ⟨g, 0, none⟩ n cap xs hxl holds a m c news hl hnews (by omega) (by unfold maxLen at h63; omega) (growslice_fits (by omega) hbytes)
    have hge := grownCap_ge w (n + m) cap e
    have hcm : grownCap w (n + m) cap e ≤ maxLen := grownCap_le_maxLen w (n + m) cap e h63
    refine ⟨w.heap.size, _, _, hr, ⟨hlen, _, heap_alloc_new w.drew _, hge, hcm, ?_, ?_⟩, (Fr.refl _ w).drew.alloc _, .inr (Nat.le_refl _)⟩
    · simp only [Array.size_append, List.size_toArray, size_zeroCells, hzs, hxl, hl, ← Nat.add_mul]
      congr 1
      omega
    · simp only [Array.toList_append, List.append_assoc]
      rw [← List.append_assoc, ← hlen]
      exact List.take_left

/-- append of elements to a nil slice: a new block -/
theorem run_append_fresh {P : Program} (w : World) (t ty e : TypeId) (i : TypeInfo) (z : Value) (sz bytes : Nat) (ht : P.underlying t = some (.slice e)) (hi : P.info? e = some i) (hz : i.zero = some z)
    (hsize : i.size = sz) (hby : i.bytes = bytes) (hzs : z.cells.size = sz) (hsz : 0 < sz)
    (a : Addr) (m c : Nat) (news : List Value) (hl : news.length = m * sz) (hnews : ∀ j u, news[j]? = some u → w.cell? (a.add j) = some u)
    (hm0 : 0 < m) (h63 : m ≤ maxLen) (hbytes : m * bytes ≤ 140737488355328) :
    ∃ g' cap' w', (Builtin.append_ #[t, t] ty #[.slice none 0 0, .slice (some a) m c]).run P w = .ok (.slice (some ⟨g', 0, none⟩) m cap') w' ∧
      Row w' g' e sz m cap' news ∧ Fr (fun _ => False) w w' ∧ w.heap.size ≤ g' := by
  subst hsize
  subst hby
  have hr := run_append_nil (P := P) w t ty e i z ht hi hz a m c news hl hnews (by omega) (by unfold maxLen at h63; omega) (by omega)
  have hge := grownCap_ge w m 0 e
  have hcm : grownCap w m 0 e ≤ maxLen := grownCap_le_maxLen w m 0 e h63
  refine ⟨w.heap.size, _, _, hr, ⟨hl, _, heap_alloc_new w.drew _, hge, hcm, ?_, ?_⟩, (Fr.refl _ w).drew.alloc _, Nat.le_refl _⟩
  · simp only [Array.size_append, List.size_toArray, size_zeroCells, hzs, hl, ← Nat.add_mul]
    congr 1
    omega
  · simp only [Array.toList_append]
    rw [← hl]
    exact List.take_left

theorem wpList_append_row {P : Program} {w : World} {ops : Array Oper} {rest : List Oper} {o : Oper} {a : Act} {Q : Exit → Act → World → Prop} (hgd : o.guard = none) (s x : Operand) (t : TypeId)
    (ho : o.op = .call { callee := .builtin .append, args := #[s, x], argTypes := #[t, t] })
    (e : TypeId) (i : TypeInfo) (z : Value) (sz bytes : Nat) (ht : P.underlying t = some (.slice e)) (hi : P.info? e = some i) (hz : i.zero = some z)
    (hsize : i.size = sz) (hby : i.bytes = bytes) (hzs : z.cells.size = sz) (hsz : 0 < sz)
    (g n cap : Nat) (xs : List Value) (hs : a.eval s = .slice (some ⟨g, 0, none⟩) n cap) (hrow : Row w g e sz n cap xs)
    (ad : Addr) (m c : Nat) (news : List Value) (hx : a.eval x = .slice (some ad) m c) (hl : news.length = m * sz) (hnews : ∀ j u, news[j]? = some u → w.cell? (ad.add j) = some u) (h1 : ∀ u ∈ news, u.oneCell' = true)
    (h63 : n + m ≤ maxLen) (hbytes : (n + m) * bytes ≤ 140737488355328)
    (h : ∀ g' cap' w', Row w' g' e sz (n + m) cap' (xs ++ news) → Fr (· = g) w w' → (g' = g ∨ w.heap.size ≤ g') → wpList P ops Q rest (a.put o.dst (.slice (some ⟨g', 0, none⟩) (n + m) cap')) w') : wpList P ops Q (o :: rest) a w :=
  wpList_plain hgd fun _ hK => by
    obtain ⟨g', cap', w', hr, h2, h3, h4⟩ := run_append_row (P := P) w t o.type e i z sz bytes ht hi hz hsize hby hzs hsz g n cap xs hrow ad m c news hl hnews h1 h63 hbytes
    unfold Oper.wp execOp
    simp only [ho, resolve, invoke, builtin, Sem.run_bind, Sem.run_pure, Result.andThen_ok, List.map_toArray, List.map_cons, List.map_nil, hs, hx, hr]
    exact hK _ _ (h g' cap' w' h2 h3 h4)

theorem wpList_append_fresh {P : Program} {w : World} {ops : Array Oper} {rest : List Oper} {o : Oper} {a : Act} {Q : Exit → Act → World → Prop} (hgd : o.guard = none) (s x : Operand) (t : TypeId)
    (ho : o.op = .call { callee := .builtin .append, args := #[s, x], argTypes := #[t, t] })
    (e : TypeId) (i : TypeInfo) (z : Value) (sz bytes : Nat) (ht : P.underlying t = some (.slice e)) (hi : P.info? e = some i) (hz : i.zero = some z)
    (hsize : i.size = sz) (hby : i.bytes = bytes) (hzs : z.cells.size = sz) (hsz : 0 < sz)
    (hs : a.eval s = .slice none 0 0)
    (ad : Addr) (m c : Nat) (news : List Value) (hx : a.eval x = .slice (some ad) m c) (hl : news.length = m * sz) (hnews : ∀ j u, news[j]? = some u → w.cell? (ad.add j) = some u)
    (hm0 : 0 < m) (h63 : m ≤ maxLen) (hbytes : m * bytes ≤ 140737488355328)
    (h : ∀ g' cap' w', Row w' g' e sz m cap' news → Fr (fun _ => False) w w' → w.heap.size ≤ g' → wpList P ops Q rest (a.put o.dst (.slice (some ⟨g', 0, none⟩) m cap')) w') : wpList P ops Q (o :: rest) a w :=
  wpList_plain hgd fun _ hK => by
    obtain ⟨g', cap', w', hr, h2, h3, h4⟩ := run_append_fresh (P := P) w t o.type e i z sz bytes ht hi hz hsize hby hzs hsz ad m c news hl hnews hm0 h63 hbytes
    unfold Oper.wp execOp
    simp only [ho, resolve, invoke, builtin, Sem.run_bind, Sem.run_pure, Result.andThen_ok, List.map_toArray, List.map_cons, List.map_nil, hs, hx, hr]
    exact hK _ _ (h g' cap' w' h2 h3 h4)

/-- one-cell values -/
def One (xs : List Value) : Prop := ∀ v ∈ xs, v.oneCell' = true

/-- copy(s[i+1:], s[i:]) in a row whose last element is to be overwritten -/
theorem shift_row {P : Program} {w : World} {g : Nat} {e t : TypeId} {cap : Nat} {xs : List Value} {z : Value} (hrow : Row w g e 1 (xs.length + 1) cap (xs ++ [z]))
    (hu : P.underlying t = some (.slice e)) (hs : (P.info? e).map (·.size) = some 1) (h1 : One xs) (i : Nat) (hi : i < xs.length) :
    ∃ cur2 : Array Value, (∀ ty, (Builtin.copy_ #[t, t] ty #[.slice (some ⟨g, i + 1, none⟩) (xs.length - i) (cap - (i + 1)), .slice (some ⟨g, i, none⟩) (xs.length + 1 - i) (cap - i)]).run P w =
        .ok (goInt ((xs.length - i : Nat) : Int)) (w.setRow g cur2)) ∧ Row (w.setRow g cur2) g e 1 (xs.length + 1) cap (xs.take i ++ xs[i] :: xs.drop i) := by
  have hrow' := hrow
  obtain ⟨hl, cur, hg, hn, hm, hsz, htk⟩ := hrow
  have hcs : (xs.drop i).length = xs.length - i := by simp
  rw [Nat.mul_one] at htk hsz
  refine ⟨(cur.toList.take (i + 1) ++ xs.drop i ++ cur.toList.drop (i + 1 + (xs.drop i).length)).toArray, fun ty => ?_, ?_⟩
  · have := run_copy_row (P := P) w t t ty e g (i + 1) (xs.length - i) (cap - (i + 1)) ⟨g, i, none⟩ (xs.length + 1 - i) (cap - i) cur e (xs.drop i) hu hs hg
      (by rw [hcs]; exact (Nat.min_eq_right (by omega)).symm)
      (fun j v hj => by
        rw [addr_add]
        refine hrow'.cell? ?_
        rw [List.getElem?_drop] at hj
        rw [List.getElem?_append_left (List.getElem?_eq_some_iff.1 hj).1]; exact hj)
      (by rw [hcs]; omega) (fun v hv => h1 v (List.mem_of_mem_drop hv))
    rw [hcs] at this ⊢
    exact this
  · refine ⟨by simp; omega, _, setRow_heap w g cur _ e _ hg, hn, hm, ?_, ?_⟩
    · simp only [List.size_toArray, List.length_append, List.length_take, List.length_drop, Array.length_toList]; omega
    · have hti : cur.toList.take (i + 1) = xs.take i ++ [xs[i]] := by
        have : cur.toList.take (i + 1) = (cur.toList.take (xs.length + 1)).take (i + 1) := by rw [List.take_take, Nat.min_eq_left (by omega)]
        rw [this, htk, List.take_append_of_le_length (by omega), List.take_succ_eq_append_getElem hi]
      rw [hti]
      have hlen : (xs.take i ++ [xs[i]] ++ xs.drop i).length = (xs.length + 1) * 1 := by simp; omega
      rw [← hlen]
      have : (xs.take i ++ [xs[i]] ++ xs.drop i ++ cur.toList.drop (i + 1 + (xs.drop i).length)).take (xs.take i ++ [xs[i]] ++ xs.drop i).length = xs.take i ++ [xs[i]] ++ xs.drop i := List.take_left
      have e : xs.take i ++ xs[i] :: xs.drop i = xs.take i ++ [xs[i]] ++ xs.drop i := by simp only [List.append_assoc, List.singleton_append]
      rw [e]; exact this

/-- a row's cells: what was copied in, then zeros -/
def rowOf (ys : List Value) (cap : Nat) (z : Value) : Array Value := (ys ++ List.replicate (cap - ys.length) z).toArray

theorem Row.made (w : World) (ys : List Value) (n cap : Nat) (z : Value) (e : TypeId) (hn : ys.length = n) (hc : n ≤ cap) (hm : cap ≤ maxLen) : Row (w.alloc (.cells (rowOf ys cap z) e)) w.heap.size e 1 n cap ys := by
  subst hn
  refine Row.new w _ e 1 ys.length cap ys (by simp) hc hm ?_ ?_
  · unfold rowOf; simp; omega
  · unfold rowOf; simp

theorem Row.madeAt (w : World) (b : Nat) (hb : b = w.heap.size) (ys : List Value) (n cap : Nat) (z : Value) (e : TypeId) (hn : ys.length = n) (hc : n ≤ cap) (hm : cap ≤ maxLen) : Row (w.alloc (.cells (rowOf ys cap z) e)) b e 1 n cap ys := by
  subst hb; exact Row.made w ys n cap z e hn hc hm

/-- copy(c, s) into a block that was just made -/
theorem fill_row {P : Program} {t e : TypeId} (w : World) (cap : Nat) (z : Value) (ys : List Value) (g o c : Nat)
    (hsrc : ∀ j (h : j < ys.length), w.cell? ⟨g, o + j, none⟩ = some ys[j]) (h1 : One ys)
    (hu : P.underlying t = some (.slice e)) (hs : (P.info? e).map (·.size) = some 1) (hc : ys.length ≤ cap) :
    ∀ ty, (Builtin.copy_ #[t, t] ty #[.slice (some ⟨w.heap.size, 0, none⟩) ys.length cap, .slice (some ⟨g, o, none⟩) ys.length c]).run P (w.alloc (.cells (madeCells #[z] cap) e)) =
        .ok (goInt ((ys.length : Nat) : Int)) (w.alloc (.cells (rowOf ys cap z) e)) := by
  intro ty
  have hg := heap_alloc_new w (.cells (madeCells #[z] cap) e)
  rw [run_copy_row (P := P) (w.alloc (.cells (madeCells #[z] cap) e)) t t ty e w.heap.size 0 ys.length cap ⟨g, o, none⟩ ys.length c (madeCells #[z] cap) e ys hu hs hg (Nat.min_self _).symm
      (fun j v hj => by
        rw [addr_add]
        obtain ⟨hl, hx⟩ := List.getElem?_eq_some_iff.1 hj
        have h2 := hsrc j hl
        have hlt := World.block_lt_of_cell? w _ h2
        rw [World.cell?_alloc_lt _ _ _ hlt, h2, hx])
      (by rw [size_madeCells]; omega) h1]
  congr 1
  have : (madeCells #[z] cap).toList.take 0 ++ ys ++ (madeCells #[z] cap).toList.drop (0 + ys.length) = ys ++ List.replicate (cap - ys.length) z := by
    rw [toList_madeCells_one]; simp
  rw [this]
  show (w.alloc (.cells (madeCells #[z] cap) e)).setRow w.heap.size (rowOf ys cap z) = _
  unfold World.setRow World.alloc
  congr 1
  apply Array.ext_getElem?
  intro i
  rw [Array.getElem?_modify, Array.getElem?_push, Array.getElem?_push]
  by_cases hi : i = w.heap.size
  · subst hi; simp
  · rw [if_neg (fun e => hi e.symm), if_neg hi, if_neg hi]

theorem set_same {α : Type} : ∀ (l : List α) (i : Nat) (a : α), l[i]? = some a → l.set i a = l
  | [], _, _, _ => rfl
  | b :: l, 0, a, h => by simp at h; subst h; rfl
  | b :: l, i + 1, a, h => by simp at h ⊢; exact set_same l i a (by simpa using h)

theorem set_mid {α : Type} (l : List α) (i : Nat) (a b : α) (r : List α) (h : l.length = i) : (l ++ a :: r).set i b = l ++ b :: r := by
  subst h; simp

theorem info23 : (Try.prog.info? 23).map (fun i => (i.zero, i.size, i.bytes)) = some (some (.slice none 0 0), 1, 24) := by kernel_rfl
theorem info5 : (Try.prog.info? 5).map (fun i => (i.zero, i.size, i.bytes)) = some (some (.int .u8 0), 1, 1) := by kernel_rfl
theorem info4 : (Try.prog.info? 4).map (fun i => (i.zero, i.size, i.bytes)) = some (some (.bool false), 1, 1) := by kernel_rfl
theorem info63 : (Try.prog.info? 63).map (fun i => (i.zero, i.size, i.bytes)) = some (some (.pointer none), 1, 8) := by kernel_rfl
theorem info48 : (Try.prog.info? 48).map (fun i => (i.zero, i.size, i.bytes)) = some (some (.pointer none), 1, 8) := by kernel_rfl
theorem info78 : (Try.prog.info? 78).map (fun i => (i.zero, i.size, i.bytes)) = some (some (.pointer none), 1, 8) := by kernel_rfl
theorem info153 : (Try.prog.info? 153).map (fun i => (i.zero, i.size, i.bytes)) = some (some (.agg #[.pointer none, .int .i64 0]), 2, 16) := by kernel_rfl
theorem info131 : (Try.prog.info? 131).map (fun i => (i.zero, i.size, i.bytes)) = some (some (.agg #[.pointer none, .int .i64 0]), 2, 16) := by kernel_rfl

theorem one_new (w : World) (v : Value) (t : TypeId) : ∀ j u, [v][j]? = some u → (w.alloc (.cells #[v] t)).cell? ((⟨w.heap.size, 0, none⟩ : Addr).add j) = some u := by
  intro j u h
  have : j = 0 := by have := (List.getElem?_eq_some_iff.1 h).1; simp at this; exact this
  subst this
  simp at h
  subst h
  rw [addr_add]
  simp

end Go.Proofs.Qxb6615626a
