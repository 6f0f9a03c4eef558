/-
  zzClone, zzCloneAll.
-/
import Derived.Test.Qxb6615626aZz
namespace Go.Proofs.Qxb6615626a
open Go.RowKit
set_option linter.unusedVariables false

def bv (l : List UInt8) : List Value := l.map fun x => .int .u8 (x.toNat : Int)
theorem length_bv (l : List UInt8) : (bv l).length = l.length := by unfold bv; simp

/-- the row behind k rounds of the copying loop -/
def part (l : List UInt8) (k : Nat) : List Value := bv (l.take k) ++ List.replicate (l.length - k) (.int .u8 0)
theorem length_part (l : List UInt8) (k : Nat) (h : k ≤ l.length) : (part l k).length = l.length := by unfold part; rw [List.length_append, length_bv]; simp; omega
theorem part_zero (l : List UInt8) : part l 0 = List.replicate l.length (.int .u8 0) := by unfold part bv; simp
theorem part_all (l : List UInt8) : part l l.length = bv l := by unfold part; simp
theorem part_at (l : List UInt8) (k : Nat) (h : k < l.length) : (part l k)[k]? = some (.int .u8 0) := by
  unfold part
  have hl : (bv (l.take k)).length = k := by rw [length_bv]; simp; omega
  rw [List.getElem?_append_right (by omega), hl, Nat.sub_self, List.getElem?_replicate, if_pos (by omega)]
theorem part_succ (l : List UInt8) (k : Nat) (h : k < l.length) : (part l k).set k (.int .u8 (l[k].toNat : Int)) = part l (k + 1) := by
  unfold part
  have hl : (bv (l.take k)).length = k := by rw [length_bv]; simp; omega
  have e : List.replicate (l.length - k) (Value.int .u8 0) = .int .u8 0 :: List.replicate (l.length - (k + 1)) (.int .u8 0) := by
    rw [show l.length - k = (l.length - (k + 1)) + 1 from by omega, List.replicate_succ]
  rw [e, set_mid _ _ _ _ _ hl]
  have e2 : bv (l.take (k + 1)) = bv (l.take k) ++ [.int .u8 (l[k].toNat : Int)] := by
    unfold bv; rw [List.take_succ_eq_append_getElem h, List.map_append]; rfl
  rw [e2, List.append_assoc]; rfl

/-- a row of bytes reads as them -/
theorem Row.byt {w : World} {g n cap : Nat} {l : List UInt8} (h : Row w g 5 1 n cap (bv l)) (hn : l.length = n) (c : Nat) : Byt w ⟨some ⟨g, 0, none⟩, n, c⟩ l := by
  refine ⟨hn, fun e => (by cases e), fun a ha => ?_⟩
  cases ha
  refine ⟨rfl, fun i hi => ?_⟩
  show w.cell? ⟨g, 0 + i, none⟩ = _
  rw [Nat.zero_add]
  refine h.cell? ?_
  unfold bv; rw [List.getElem?_map, List.getElem?_eq_getElem hi]; rfl

set_option maxHeartbeats 1000000 in
theorem zzClone_some (b o n c : Nat) (l : List UInt8) (w : World) (hn : l.length = n) (hlen : n ≤ 1048576)
    (hk : ∀ i (h : i < l.length), w.cell? ⟨b, o + i, none⟩ = some (.int .u8 (l[i].toNat : Int))) :
    Calls Try.prog 13 #[.slice (some ⟨b, o, none⟩) n c] w fun e w' => e = .returned (.slice (some ⟨w.heap.size, 0, none⟩) n n) ∧ Row w' w.heap.size 5 1 n n (bv l) ∧ Fr (fun _ => False) w w' := by
  subst hn
  have hnil := fun w => Lib.run_eql_slice_nil (P := Try.prog) w 23 5 (some ⟨b, o, none⟩) l.length c 0 0 Try.underlying23
  obtain ⟨i0, hin, hz0, hz1, hz2⟩ := info_parts info5
  have hmk := run_make (P := Try.prog) w 23 5 i0 (.int .u8 0) Try.underlying23 hin hz0 .i64 .i64 (l.length : Int) (l.length : Int) (by omega) (by omega) (by rw [hz2]; omega) (by omega)
  have e1 : ((l.length : Int)).toNat = l.length := by omega
  rw [e1, hz1, Nat.mul_one, show Value.cells (.int .u8 0) = #[.int .u8 0] from rfl] at hmk
  clear e1 hin hz0 hz1 hz2
  have hR0 : Row (w.alloc (.cells (madeCells #[.int .u8 0] l.length) 5)) w.heap.size 5 1 l.length l.length (part l 0) :=
    Row.new w _ 5 1 l.length l.length _ (by rw [length_part _ _ (Nat.zero_le _)]; simp) (Nat.le_refl _) (by unfold maxLen; omega) (by rw [size_madeCells]; simp) (by rw [toList_madeCells_one, part_zero]; simp)
  have HR0 := hide hR0; have HK := hide hk
  clear hR0 hk
  generalize madeCells #[.int .u8 0] l.length = made at *
  go_enter Try.func13, Try.ntmps13
  go_wp2_with fail
  go_loopw [4] (fun i wr => ∃ k : Nat, k ≤ l.length ∧ i = .int .i64 k ∧ Hid (Row wr w.heap.size 5 1 l.length l.length (part l k) ∧ Fr (fun _ => False) w wr)) (fun i _ => l.length - (intOf i).toNat)
  case atStart => exact ⟨0, Nat.zero_le _, rfl, hide ⟨unhide HR0, (Fr.refl _ w).alloc _⟩⟩
  case round =>
    obtain ⟨k, hk, rfl, HR⟩ := hrel
    by_cases hlt : k < l.length
    · have x1 : wr.cell? ⟨b, o + k, none⟩ = _ := ((unhide HR).2.cell (p := ⟨b, o + k, none⟩) (World.block_lt_of_cell? w _ (unhide HK k hlt)) (fun e => e)).trans (unhide HK k hlt)
      obtain ⟨u, hu⟩ : ∃ u : Int, u = (l[k].toNat : Int) := ⟨_, rfl⟩
      rw [← hu] at x1
      have HU := hide hu
      clear hu
      have x2 : wr.cell? ⟨w.heap.size, k, none⟩ = some (.int .u8 0) := (unhide HR).1.cell? (part_at l k hlt)
      have x3 := (unhide HR).1.frozen k
      go_wp2_with fail
      go_roundw
      case rel =>
        refine ⟨k + 1, by omega, by go_num, hide ⟨?_, (unhide HR).2.setCell ⟨w.heap.size, k, none⟩ _ (fun h => by simp at h)⟩⟩
        have := (unhide HR).1.setCell (j := k) (by rw [length_part _ _ hk]; exact hlt) (.int .u8 u)
        rw [unhide HU, part_succ l k hlt, ← unhide HU] at this
        exact this
      case measure => simp [intOf]; omega
    · go_wp2_with fail
      go_ret
      have hkl : k = l.length := by omega
      have h := unhide HR
      rw [hkl, part_all] at h
      exact ⟨rfl, h.1, h.2⟩

theorem Byt.fr {F : Nat → Prop} {w w' : World} {s : Sl} {l : List UInt8} (h : Byt w s l) (hf : Fr F w w') (hs : s.a ≠ none → ¬ F s.blk) : Byt w' s l := by
  refine ⟨h.1, h.2.1, fun a ha => ⟨(h.2.2 a ha).1, fun i hi => ?_⟩⟩
  have hc := (h.2.2 a ha).2 i hi
  have hb : s.blk = a.block := by unfold Sl.blk; rw [ha]
  rw [hf.cell (p := ⟨a.block, a.off + i, none⟩) (World.block_lt_of_cell? w _ hc) (by have := hs (by rw [ha]; simp); rw [hb] at this; exact this)]
  exact hc
theorem Byt.setCell_other {w : World} {s : Sl} {l : List UInt8} (h : Byt w s l) (p : Addr) (u : Value) (hp : s.a ≠ none → s.blk ≠ p.block) : Byt (w.setCell p u) s l :=
  h.fr (F := fun k => k = p.block) ((Fr.refl _ w).setCell p u (fun _ => rfl)) hp

set_option maxHeartbeats 1000000 in
theorem zzClone_nil (n c : Nat) (w : World) :
    Calls Try.prog 13 #[.slice none n c] w fun e w' => e = .returned (.slice none 0 0) ∧ w' = w := by
  have hnil := fun w => Lib.run_eql_slice_nil (P := Try.prog) w 23 5 none n c 0 0 Try.underlying23
  go_enter Try.func13, Try.ntmps13
  go_wp2_with fail
  go_ret
  exact ⟨rfl, rfl⟩

/-- a slice that lies in memory made between two counts of blocks, or is nil -/
def Sl.made (s : Sl) (lo hi : Nat) : Prop := s.a = none ∨ (lo ≤ s.blk ∧ s.blk < hi)

/-- zzClone: the same bytes, in new memory -/
theorem zzClone_any (s : Sl) (l : List UInt8) (w : World) (hs : Byt w s l) (hlen : s.n ≤ 1048576) :
    Calls Try.prog 13 #[s.v] w fun e w' => ∃ s' : Sl, e = .returned s'.v ∧ Byt w' s' l ∧ s'.n = s.n ∧ s'.made w.heap.size w'.heap.size ∧ Fr (fun _ => False) w w' := by
  obtain ⟨a, n, c⟩ := s
  cases a with
  | none =>
    have hn0 : n = 0 := hs.2.1 rfl
    have hl : l = [] := List.length_eq_zero_iff.1 (by have := hs.1; simp at this; omega)
    subst hl
    refine (zzClone_nil n c w).mono ?_
    rintro e w' ⟨rfl, rfl⟩
    exact ⟨Sl.nil, rfl, Byt.nil _, hn0.symm, .inl rfl, Fr.refl _ _⟩
  | some a =>
    obtain ⟨b, o, p⟩ := a
    have e1 : p = none := (hs.2.2 _ rfl).1
    subst e1
    refine (zzClone_some b o n c l w hs.1 hlen (hs.2.2 _ rfl).2).mono ?_
    rintro e w' ⟨rfl, h1, h2⟩
    exact ⟨⟨some ⟨w.heap.size, 0, none⟩, n, n⟩, rfl, h1.byt hs.1 n, rfl, .inr ⟨Nat.le_refl _, h1.lt⟩, h2⟩

/-- the values of byte slices, then nil slices -/
def spart (ss : List Sl) (n : Nat) : List Value := ss.map Sl.v ++ List.replicate (n - ss.length) (.slice none 0 0)
theorem length_spart (ss : List Sl) (n : Nat) (h : ss.length ≤ n) : (spart ss n).length = n := by unfold spart; simp; omega
theorem spart_at (ss : List Sl) (n : Nat) (h : ss.length < n) : (spart ss n)[ss.length]? = some (.slice none 0 0) := by
  unfold spart
  rw [List.getElem?_append_right (by simp), List.length_map, Nat.sub_self, List.getElem?_replicate, if_pos (by omega)]
theorem spart_succ (ss : List Sl) (n : Nat) (h : ss.length < n) (s : Sl) : (spart ss n).set ss.length s.v = spart (ss ++ [s]) n := by
  unfold spart
  have e : List.replicate (n - ss.length) (Value.slice none 0 0) = .slice none 0 0 :: List.replicate (n - (ss.length + 1)) (.slice none 0 0) := by
    rw [show n - ss.length = (n - (ss.length + 1)) + 1 from by omega, List.replicate_succ]
  rw [e, set_mid _ _ _ _ _ (by simp)]
  simp

/-- what zzCloneAll has made behind k rounds -/
structure ClAll (w0 w : World) (g n : Nat) (ls : List (List UInt8)) (ss : List Sl) : Prop where
  row : Row w g 23 1 n n (spart ss n)
  byt : ∀ i (h : i < ss.length) (h' : i < ls.length), Byt w ss[i] ls[i] ∧ ss[i].made (g + 1) w.heap.size
  fra : Fr (fun _ => False) w0 w

set_option maxHeartbeats 1000000 in
theorem zzCloneAll_some (b o n c : Nat) (ss : List Sl) (ls : List (List UInt8)) (w : World) (hn : ss.length = n) (hls : ls.length = n) (hlen : n ≤ 1048576)
    (hk : ∀ i (h : i < ss.length), w.cell? ⟨b, o + i, none⟩ = some ss[i].v) (hb : ∀ i (h : i < ss.length) (h' : i < ls.length), Byt w ss[i] ls[i] ∧ ss[i].n ≤ 1048576) :
    Calls Try.prog 12 #[.slice (some ⟨b, o, none⟩) n c] w fun e w' => e = .returned (.slice (some ⟨w.heap.size, 0, none⟩) n n) ∧ ∃ ss' : List Sl, ss'.length = n ∧ ClAll w w' w.heap.size n ls ss' := by
  have hnil := fun w => Lib.run_eql_slice_nil (P := Try.prog) w 22 23 (some ⟨b, o, none⟩) n c 0 0 Try.underlying22
  obtain ⟨i0, hin, hz0, hz1, hz2⟩ := info_parts info23
  have hmk := run_make (P := Try.prog) w 22 23 i0 (.slice none 0 0) Try.underlying22 hin hz0 .i64 .i64 (n : Int) (n : Int) (by omega) (by omega) (by rw [hz2]; omega) (by omega)
  have e1 : ((n : Int)).toNat = n := by omega
  rw [e1, hz1, Nat.mul_one, show Value.cells (.slice none 0 0) = #[.slice none 0 0] from rfl] at hmk
  clear e1 hin hz0 hz1 hz2
  have hR0 : Row (w.alloc (.cells (madeCells #[.slice none 0 0] n) 23)) w.heap.size 23 1 n n (spart [] n) :=
    Row.new w _ 23 1 n n _ (by rw [length_spart _ _ (Nat.zero_le _)]; simp) (Nat.le_refl _) (by unfold maxLen; omega) (by rw [size_madeCells]; simp) (by rw [toList_madeCells_one]; unfold spart; simp)
  have HR0 := hide hR0; have HK := hide hk; have HB := hide hb; have HN := hide hn; have HLS := hide hls
  clear hR0 hk hb hn hls
  generalize madeCells #[.slice none 0 0] n = made at *
  go_enter Try.func12, Try.ntmps12
  go_wp2_with fail
  go_loopw [4] (fun i wr => ∃ (k : Nat) (ss' : List Sl), k ≤ n ∧ i = .int .i64 k ∧ Hid (ss'.length = k) ∧ Hid (ClAll w wr w.heap.size n ls ss')) (fun i _ => n - (intOf i).toNat)
  case atStart => exact ⟨0, [], Nat.zero_le _, rfl, hide rfl, hide ⟨unhide HR0, fun i h => absurd h (by simp), (Fr.refl _ w).alloc _⟩⟩
  case round =>
    obtain ⟨k, ss', hk, rfl, HL, HC⟩ := hrel
    by_cases hlt : k < n
    · have a1 : k < ss.length := by have := unhide HN; omega
      have a2 : k < ls.length := by have := unhide HLS; omega
      have x1 : wr.cell? ⟨b, o + k, none⟩ = _ := ((unhide HC).fra.cell (p := ⟨b, o + k, none⟩) (World.block_lt_of_cell? w _ (unhide HK k a1)) (fun e => e)).trans (unhide HK k a1)
      obtain ⟨s, hs⟩ : ∃ s, s = ss[k] := ⟨_, rfl⟩
      rw [← hs] at x1
      have hbs : Hid (Byt wr s ls[k] ∧ s.n ≤ 1048576) := hide (by
        rw [hs]
        exact ⟨(unhide HB k a1 a2).1.fr (unhide HC).fra (fun _ e => e), (unhide HB k a1 a2).2⟩)
      have HS := hide hs
      clear hs
      go_wp2_with fail
      refine (zzClone_any s ls[k] wr (unhide hbs).1 (unhide hbs).2).mono ?_
      rintro e w2 ⟨s', rfl, hB', hn', hm', hF'⟩
      have hC2 : Row w2 w.heap.size 23 1 n n (spart ss' n) := (unhide HC).row.fr hF' (fun e => e)
      have x2 : w2.cell? ⟨w.heap.size, k, none⟩ = some (.slice none 0 0) := hC2.cell? (by rw [← unhide HL]; exact spart_at ss' n (by have := unhide HL; omega))
      have x3 := hC2.frozen k
      have HC2 := hide hC2; have HB' := hide hB'; have HM' := hide hm'; have HF' := hide hF'
      clear hC2 hB' hn' hm' hF'
      go_wp2_with fail
      go_roundw
      case rel =>
        refine ⟨k + 1, ss' ++ [s'], by omega, by go_num, hide (by simp [unhide HL]), hide ⟨?_, ?_, ?_⟩⟩
        · have := (unhide HC2).setCell (j := k) (by rw [length_spart _ _ (by have := unhide HL; omega)]; exact hlt) s'.v
          rw [← unhide HL, spart_succ ss' n (by have := unhide HL; omega), unhide HL] at this
          exact this
        · intro i hi hi'
          have hsz : (w2.setCell ⟨w.heap.size, k, none⟩ s'.v).heap.size = w2.heap.size := by simp [World.setCell]
          have hle := (unhide HF').size
          have hgw := (unhide HC).row.lt
          by_cases hik : i < ss'.length
          · rw [List.getElem_append_left hik]
            obtain ⟨g1, g2⟩ := (unhide HC).byt i hik hi'
            refine ⟨(g1.fr (unhide HF') (fun _ e => e)).setCell_other _ _ (fun hne => ?_), ?_⟩
            · rcases g2 with e | e
              · exact absurd e hne
              · show ss'[i].blk ≠ w.heap.size; omega
            · rw [hsz]; exact g2.imp id (fun e => ⟨e.1, by omega⟩)
          · have hie : i = ss'.length := by simp at hi; omega
            subst hie
            rw [List.getElem_append_right (Nat.le_refl _)]
            simp only [Nat.sub_self, List.getElem_cons_zero]
            have e1 : ls[ss'.length] = ls[k] := by congr 1
            rw [e1]
            refine ⟨(unhide HB').setCell_other _ _ (fun hne => ?_), ?_⟩
            · rcases unhide HM' with e | e
              · exact absurd e hne
              · show s'.blk ≠ w.heap.size; omega
            · rw [hsz]; exact (unhide HM').imp id (fun e => ⟨by omega, e.2⟩)
        · exact (((unhide HC).fra.trans (unhide HF') (fun _ _ e => e)).setCell ⟨w.heap.size, k, none⟩ _ (fun h => by simp at h))
      case measure => simp [intOf]; omega
    · go_wp2_with fail
      go_ret
      exact ⟨rfl, ss', by have := unhide HL; omega, unhide HC⟩
end Go.Proofs.Qxb6615626a
