/-
  zzCloneAll at every slice; what a slice reads as; slices handed back.
-/
import Derived.Test.Qxb6615626aZz2
import Derived.Test.Qxb6615626aRok
namespace Go.Proofs.Qxb6615626a
open Go.RowKit
set_option linter.unusedVariables false

theorem Byt.unique {w : World} {s : Sl} {a b : List UInt8} (ha : Byt w s a) (hb : Byt w s b) : a = b := by
  have hl : a.length = b.length := by rw [ha.1, hb.1]
  refine List.ext_getElem hl fun i h1 h2 => ?_
  cases hs : s.a with
  | none => have := ha.2.1 hs; have := ha.1; omega
  | some ad =>
    have x := (ha.2.2 ad hs).2 i h1
    have y := (hb.2.2 ad hs).2 i h2
    rw [x] at y
    simp at y
    have e : a[i].toNat = b[i].toNat := by omega
    exact UInt8.toNat_inj.1 e

open Classical in
/-- what a slice reads as in w -/
noncomputable def rdf (w : World) (s : Sl) : List UInt8 := if h : ∃ l, Byt w s l then Classical.choose h else []

theorem rdf_eq {w : World} {s : Sl} {l : List UInt8} (h : Byt w s l) : rdf w s = l := by
  unfold rdf
  have hx : ∃ l, Byt w s l := ⟨l, h⟩
  rw [dif_pos hx]
  exact (Classical.choose_spec hx).unique h

theorem rdf_nil (w : World) : rdf w Sl.nil = [] := rdf_eq (Byt.nil w)

theorem Lst.frame {w w' : World} {s : Sl} {ss : List Sl} (h : Lst w s ss) (hf : Fr (fun _ => False) w w') : Lst w' s ss :=
  ⟨h.1, h.2.1, fun a ha i hi => ⟨(h.2.2 a ha i hi).1, (hf.cell (p := ⟨a.block, a.off + i, none⟩) (World.block_lt_of_cell? w _ (h.2.2 a ha i hi).2) (fun e => e)).trans (h.2.2 a ha i hi).2⟩⟩

theorem LstW.frame {w w' : World} {s : Sl} {ss : List Sl} {ls : List (List UInt8)} (h : LstW w s ss ls) (hf : Fr (fun _ => False) w w') : LstW w' s ss ls :=
  ⟨h.lst.frame hf, h.len, fun i h1 h2 => (h.byt i h1 h2).frame hf, h.small⟩

theorem LstB.frame {w w' : World} {s : Sl} {ss : List Sl} {ls : List (List UInt8)} (h : LstB w s ss ls) (hf : Fr (fun _ => False) w w') : LstB w' s ss ls :=
  ⟨h.lst.frame hf, h.len, fun i h1 h2 => (h.byt i h1 h2).fr hf (fun _ e => e), h.small⟩

set_option maxHeartbeats 1000000 in
theorem zzCloneAll_nil (n c : Nat) (w : World) :
    Calls Try.prog 12 #[.slice none n c] w fun e w' => e = .returned (.slice none 0 0) ∧ w' = w := by
  have hnil := fun w => Lib.run_eql_slice_nil (P := Try.prog) w 22 23 none n c 0 0 Try.underlying22
  go_enter Try.func12, Try.ntmps12
  go_wp2_with fail
  go_ret
  exact ⟨rfl, rfl⟩

def CloneAllPost (n : Nat) (ls : List (List UInt8)) (w : World) (e : Ending) (w' : World) : Prop :=
  ∃ (s : Sl) (ss : List Sl), e = .returned s.v ∧ s.n = n ∧ LstB w' s ss ls ∧ (∀ t ∈ ss, t.made w.heap.size w'.heap.size) ∧ Fr (fun _ => False) w w' ∧ ∀ t ∈ ss, t.n ≤ 1048576

set_option maxHeartbeats 1000000 in
theorem zzClone_zero (a : Addr) (c : Nat) (w : World) :
    Calls Try.prog 13 #[.slice (some a) 0 c] w fun e w' => e = .returned (.slice (some ⟨w.heap.size, 0, none⟩) 0 0) ∧ Fr (fun _ => False) w w' ∧ w.heap.size < w'.heap.size := by
  have hnil := fun w => Lib.run_eql_slice_nil (P := Try.prog) w 23 5 (some a) 0 c 0 0 Try.underlying23
  obtain ⟨i0, hin, hz0, hz1, hz2⟩ := info_parts info5
  have hmk := run_make (P := Try.prog) w 23 5 i0 (.int .u8 0) Try.underlying23 hin hz0 .i64 .i64 (0 : Int) (0 : Int) (by omega) (by omega) (by rw [hz2]; omega) (by omega)
  rw [hz1, Nat.mul_one] at hmk
  clear hin hz0 hz1 hz2
  go_enter Try.func13, Try.ntmps13
  go_wp2_with fail
  refine wp_loop_rounds 1 ?_
  rw [rounds_succ]
  go_wp2_with fail
  go_ret
  exact ⟨rfl, (Fr.refl _ w).alloc _, by simp⟩

/-- zzClone, of a slice that came in -/
theorem zzClone_weak (s : Sl) (l : List UInt8) (w : World) (hs : BytW w s l) (hlen : s.n ≤ 1048576) :
    Calls Try.prog 13 #[s.v] w fun e w' => ∃ s' : Sl, e = .returned s'.v ∧ Byt w' s' l ∧ s'.n = s.n ∧ s'.made w.heap.size w'.heap.size ∧ Fr (fun _ => False) w w' := by
  obtain ⟨a, n, c⟩ := s
  cases a with
  | none =>
    have hn0 : n = 0 := hs.2.1 rfl
    have hl : l = [] := List.length_eq_zero_iff.1 (by have := hs.1; simp at this; omega)
    subst hl
    refine (zzClone_nil n c w).mono ?_
    rintro e w' ⟨rfl, rfl⟩
    exact ⟨Sl.nil, rfl, Byt.nil _, hn0.symm, .inl rfl, Fr.refl _ _⟩
  | some a =>
    by_cases hn : n = 0
    · subst hn
      have hl : l = [] := List.length_eq_zero_iff.1 hs.1
      subst hl
      refine (zzClone_zero a c w).mono ?_
      rintro e w' ⟨rfl, h1, h2⟩
      exact ⟨⟨some ⟨w.heap.size, 0, none⟩, 0, 0⟩, rfl, ⟨rfl, fun _ => rfl, fun a ha => by cases ha; exact ⟨rfl, fun i hi => (nomatch hi)⟩⟩, rfl, .inr ⟨Nat.le_refl _, h2⟩, h1⟩
    · obtain ⟨b, o, p⟩ := a
      have l0 : 0 < l.length := by rw [hs.1]; show 0 < n; omega
      have e1 : p = none := (hs.2.2 _ rfl 0 l0).1
      subst e1
      refine (zzClone_some b o n c l w hs.1 hlen (fun i hi => (hs.2.2 _ rfl i hi).2)).mono ?_
      rintro e w' ⟨rfl, h1, h2⟩
      exact ⟨⟨some ⟨w.heap.size, 0, none⟩, n, n⟩, rfl, h1.byt hs.1 n, rfl, .inr ⟨Nat.le_refl _, h1.lt⟩, h2⟩

set_option maxHeartbeats 1000000 in
theorem zzCloneAll_weak (b o n c : Nat) (ss : List Sl) (ls : List (List UInt8)) (w : World) (hn : ss.length = n) (hls : ls.length = n) (hlen : n ≤ 1048576)
    (hk : ∀ i (h : i < ss.length), w.cell? ⟨b, o + i, none⟩ = some ss[i].v) (hb : ∀ i (h : i < ss.length) (h' : i < ls.length), BytW w ss[i] ls[i] ∧ ss[i].n ≤ 1048576) :
    Calls Try.prog 12 #[.slice (some ⟨b, o, none⟩) n c] w fun e w' => e = .returned (.slice (some ⟨w.heap.size, 0, none⟩) n n) ∧ ∃ ss' : List Sl, ss'.length = n ∧ ClAll w w' w.heap.size n ls ss' := by
  have hnil := fun w => Lib.run_eql_slice_nil (P := Try.prog) w 22 23 (some ⟨b, o, none⟩) n c 0 0 Try.underlying22
  obtain ⟨i0, hin, hz0, hz1, hz2⟩ := info_parts info23
  have hmk := run_make (P := Try.prog) w 22 23 i0 (.slice none 0 0) Try.underlying22 hin hz0 .i64 .i64 (n : Int) (n : Int) (by omega) (by omega) (by rw [hz2]; omega) (by omega)
  have e1 : ((n : Int)).toNat = n := by omega
  rw [e1, hz1, Nat.mul_one, show Value.cells (.slice none 0 0) = #[.slice none 0 0] from rfl] at hmk
  clear e1 hin hz0 hz1 hz2
  have hR0 : Row (w.alloc (.cells (madeCells #[.slice none 0 0] n) 23)) w.heap.size 23 1 n n (spart [] n) :=
    Row.new w _ 23 1 n n _ (by rw [length_spart _ _ (Nat.zero_le _)]; simp) (Nat.le_refl _) (by unfold maxLen; omega) (by rw [size_madeCells]; simp) (by rw [toList_madeCells_one]; unfold spart; simp)
  have HR0 := hide hR0; have HK := hide hk; have HB := hide hb; have HN := hide hn; have HLS := hide hls
  clear hR0 hk hb hn hls
  generalize madeCells #[.slice none 0 0] n = made at *
  go_enter Try.func12, Try.ntmps12
  go_wp2_with fail
  go_loopw [4] (fun i wr => ∃ (k : Nat) (ss' : List Sl), k ≤ n ∧ i = .int .i64 k ∧ Hid (ss'.length = k) ∧ Hid (ClAll w wr w.heap.size n ls ss')) (fun i _ => n - (intOf i).toNat)
  case atStart => exact ⟨0, [], Nat.zero_le _, rfl, hide rfl, hide ⟨unhide HR0, fun i h => absurd h (by simp), (Fr.refl _ w).alloc _⟩⟩
  case round =>
    obtain ⟨k, ss', hk, rfl, HL, HC⟩ := hrel
    by_cases hlt : k < n
    · have a1 : k < ss.length := by have := unhide HN; omega
      have a2 : k < ls.length := by have := unhide HLS; omega
      have x1 : wr.cell? ⟨b, o + k, none⟩ = _ := ((unhide HC).fra.cell (p := ⟨b, o + k, none⟩) (World.block_lt_of_cell? w _ (unhide HK k a1)) (fun e => e)).trans (unhide HK k a1)
      obtain ⟨s, hs⟩ : ∃ s, s = ss[k] := ⟨_, rfl⟩
      rw [← hs] at x1
      have hbs : Hid (BytW wr s ls[k] ∧ s.n ≤ 1048576) := hide (by
        rw [hs]
        exact ⟨(unhide HB k a1 a2).1.frame (unhide HC).fra, (unhide HB k a1 a2).2⟩)
      have HS := hide hs
      clear hs
      go_wp2_with fail
      refine (zzClone_weak s ls[k] wr (unhide hbs).1 (unhide hbs).2).mono ?_
      rintro e w2 ⟨s', rfl, hB', hn', hm', hF'⟩
      have hC2 : Row w2 w.heap.size 23 1 n n (spart ss' n) := (unhide HC).row.fr hF' (fun e => e)
      have x2 : w2.cell? ⟨w.heap.size, k, none⟩ = some (.slice none 0 0) := hC2.cell? (by rw [← unhide HL]; exact spart_at ss' n (by have := unhide HL; omega))
      have x3 := hC2.frozen k
      have HC2 := hide hC2; have HB' := hide hB'; have HM' := hide hm'; have HF' := hide hF'
      clear hC2 hB' hn' hm' hF'
      go_wp2_with fail
      go_roundw
      case rel =>
        refine ⟨k + 1, ss' ++ [s'], by omega, by go_num, hide (by simp [unhide HL]), hide ⟨?_, ?_, ?_⟩⟩
        · have := (unhide HC2).setCell (j := k) (by rw [length_spart _ _ (by have := unhide HL; omega)]; exact hlt) s'.v
          rw [← unhide HL, spart_succ ss' n (by have := unhide HL; omega), unhide HL] at this
          exact this
        · intro i hi hi'
          have hsz : (w2.setCell ⟨w.heap.size, k, none⟩ s'.v).heap.size = w2.heap.size := by simp [World.setCell]
          have hle := (unhide HF').size
          have hgw := (unhide HC).row.lt
          by_cases hik : i < ss'.length
          · rw [List.getElem_append_left hik]
            obtain ⟨g1, g2⟩ := (unhide HC).byt i hik hi'
            refine ⟨(g1.fr (unhide HF') (fun _ e => e)).setCell_other _ _ (fun hne => ?_), ?_⟩
            · rcases g2 with e | e
              · exact absurd e hne
              · show ss'[i].blk ≠ w.heap.size; omega
            · rw [hsz]; exact g2.imp id (fun e => ⟨e.1, by omega⟩)
          · have hie : i = ss'.length := by simp at hi; omega
            subst hie
            rw [List.getElem_append_right (Nat.le_refl _)]
            simp only [Nat.sub_self, List.getElem_cons_zero]
            have e1 : ls[ss'.length] = ls[k] := by congr 1
            rw [e1]
            refine ⟨(unhide HB').setCell_other _ _ (fun hne => ?_), ?_⟩
            · rcases unhide HM' with e | e
              · exact absurd e hne
              · show s'.blk ≠ w.heap.size; omega
            · rw [hsz]; exact (unhide HM').imp id (fun e => ⟨by omega, e.2⟩)
        · exact (((unhide HC).fra.trans (unhide HF') (fun _ _ e => e)).setCell ⟨w.heap.size, k, none⟩ _ (fun h => by simp at h))
      case measure => simp [intOf]; omega
    · go_wp2_with fail
      go_ret
      exact ⟨rfl, ss', by have := unhide HL; omega, unhide HC⟩

set_option maxHeartbeats 1000000 in
theorem zzCloneAll_zero (a : Addr) (c : Nat) (w : World) :
    Calls Try.prog 12 #[.slice (some a) 0 c] w fun e w' => e = .returned (.slice (some ⟨w.heap.size, 0, none⟩) 0 0) ∧ Fr (fun _ => False) w w' := by
  have hnil := fun w => Lib.run_eql_slice_nil (P := Try.prog) w 22 23 (some a) 0 c 0 0 Try.underlying22
  obtain ⟨i0, hin, hz0, hz1, hz2⟩ := info_parts info23
  have hmk := run_make (P := Try.prog) w 22 23 i0 (.slice none 0 0) Try.underlying22 hin hz0 .i64 .i64 (0 : Int) (0 : Int) (by omega) (by omega) (by rw [hz2]; omega) (by omega)
  rw [hz1, Nat.mul_one] at hmk
  clear hin hz0 hz1 hz2
  go_enter Try.func12, Try.ntmps12
  go_wp2_with fail
  refine wp_loop_rounds 1 ?_
  rw [rounds_succ]
  go_wp2_with fail
  go_ret
  exact ⟨rfl, (Fr.refl _ w).alloc _⟩

theorem zzCloneAll_any (s : Sl) (ss : List Sl) (ls : List (List UInt8)) (w : World) (h : LstW w s ss ls) (hn : s.n ≤ 1048576) (hm : ∀ t ∈ ss, t.n ≤ 1048576) :
    Calls Try.prog 12 #[s.v] w (CloneAllPost s.n ls w) := by
  obtain ⟨a, n, c⟩ := s
  have hls := h.n_eq
  cases a with
  | none =>
    have hn0 : n = 0 := h.lst.2.1 rfl
    have hl : ls = [] := List.length_eq_zero_iff.1 (by omega)
    subst hl
    refine (zzCloneAll_nil n c w).mono ?_
    rintro e w' ⟨rfl, rfl⟩
    refine ⟨Sl.nil, [], rfl, hn0.symm, ⟨⟨rfl, fun _ => rfl, fun a h => (nomatch h)⟩, rfl, fun i h => (nomatch h), fun t h => (nomatch h)⟩, fun t h => (nomatch h), Fr.refl _ _, fun t h => (nomatch h)⟩
  | some a =>
    have hsl : ss.length = n := h.lst.1
    by_cases hn0 : n = 0
    · subst hn0
      have hl : ls = [] := List.length_eq_zero_iff.1 hls
      subst hl
      refine (zzCloneAll_zero a c w).mono ?_
      rintro e w' ⟨rfl, h1⟩
      exact ⟨⟨some ⟨w.heap.size, 0, none⟩, 0, 0⟩, [], rfl, rfl, ⟨⟨rfl, fun _ => rfl, fun a _ i h => (nomatch h)⟩, rfl, fun i h => (nomatch h), fun t h => (nomatch h)⟩, fun t h => (nomatch h), h1, fun t h => (nomatch h)⟩
    obtain ⟨b, o, p⟩ := a
    have e1 : p = none := (h.lst.2.2 _ rfl 0 (by omega)).1
    subst e1
    refine (zzCloneAll_weak b o n c ss ls w hsl hls hn (fun i hi => (h.lst.2.2 _ rfl i hi).2) (fun i h1 h2 => ⟨h.byt i h1 h2, hm _ (List.getElem_mem h1)⟩)).mono ?_
    rintro e w' ⟨rfl, ss', hl', hC⟩
    have hb : ∀ i (h1 : i < ss'.length) (h2 : i < ls.length), Byt w' ss'[i] ls[i] := fun i h1 h2 => (hC.byt i h1 h2).1
    have hsn : ∀ t ∈ ss', t.n ≤ 1048576 := fun t ht => by
      obtain ⟨i, hi, rfl⟩ := List.mem_iff_getElem.1 ht
      have h2 : i < ls.length := by omega
      have h3 : i < ss.length := by omega
      have := (hb i hi h2).1
      rw [← this, (h.byt i h3 h2).1]
      exact hm _ (List.getElem_mem h3)
    refine ⟨⟨some ⟨w.heap.size, 0, none⟩, n, n⟩, ss', rfl, rfl, ⟨⟨hl', fun e => (nomatch e), fun a ha i hi => ?_⟩, by omega, hb, fun t ht => Nat.le_trans (hsn t ht) (by unfold maxLen; omega)⟩, fun t ht => ?_, hC.fra, hsn⟩
    · cases ha
      refine ⟨rfl, ?_⟩
      rw [Nat.zero_add]
      refine hC.row.cell? ?_
      unfold spart
      rw [List.getElem?_append_left (by simpa using hi), List.getElem?_map, List.getElem?_eq_getElem hi]; rfl
    · obtain ⟨i, hi, rfl⟩ := List.mem_iff_getElem.1 ht
      rcases (hC.byt i hi (by omega)).2 with e | e
      · exact .inl e
      · exact .inr ⟨by omega, e.2⟩
end Go.Proofs.Qxb6615626a
