/-
  zzRangesOK.
-/
import Derived.Test.Qxb6615626aLst
namespace Go.Proofs.Qxb6615626a
open Go.RowKit
set_option linter.unusedVariables false

/-- range i is as zzRangesOK wants it, among those before k -/
structure RokAt (ls le : List (List UInt8)) (tb : List UInt8) (op : Bool) (i : Nat) : Prop where
  ne : ∀ (h : i < le.length), le[i] ≠ []
  lt : ∀ (h : i < le.length) (h' : i < ls.length), Pl.lt ls[i] le[i]
  tl : op = true → ∀ (h : i < le.length), Pl.lt le[i] tb

def RokTo (ls le : List (List UInt8)) (i j : Nat) : Prop := ∀ (h : i < le.length) (h' : i < ls.length) (g : j < le.length) (g' : j < ls.length), Pl.lt le[i] ls[j] ∨ Pl.lt le[j] ls[i]

structure Rok (ls le : List (List UInt8)) (lt : List UInt8) (op : Bool) (k : Nat) : Prop where
  one : ∀ i, i < k → RokAt ls le lt op i
  two : ∀ i j, i < k → i < j → RokTo ls le i j

def RokPost (ls le : List (List UInt8)) (lt : List UInt8) (op : Bool) (w : World) (e : Ending) (w' : World) : Prop :=
  (∃ m, w' = w.drewN m) ∧ ∃ b : Bool, e = .returned (.bool b) ∧ (b = true → Rok ls le lt op le.length)

/-- what zzCmp says of two slices, in every world with this memory -/
def CmpIs (w : World) (s t : Sl) (c : Int) : Prop := ∀ W : World, W.heap = w.heap → Calls Try.prog 16 #[.slice s.a s.n s.c, .slice t.a t.n t.c] W fun e w' => e = .returned (.int .i64 c) ∧ ∃ m, w' = W.drewN m

theorem Byt.of_heap {w w' : World} {s : Sl} {l : List UInt8} (h : Byt w s l) (e : w'.heap = w.heap) : Byt w' s l := by
  refine ⟨h.1, h.2.1, fun a ha => ⟨(h.2.2 a ha).1, fun i hi => ?_⟩⟩
  have := (h.2.2 a ha).2 i hi
  simp only [World.cell?, e] at this ⊢
  exact this

/-- as Byt; of an empty slice's address nothing is said -/
def BytW (w : World) (s : Sl) (l : List UInt8) : Prop :=
  l.length = s.n ∧ (s.a = none → s.n = 0) ∧ ∀ a, s.a = some a → ∀ i (h : i < l.length), a.spot = none ∧ w.cell? ⟨a.block, a.off + i, none⟩ = some (.int .u8 (l[i].toNat : Int))

theorem Byt.weak {w : World} {s : Sl} {l : List UInt8} (h : Byt w s l) : BytW w s l := ⟨h.1, h.2.1, fun a ha i hi => ⟨(h.2.2 a ha).1, (h.2.2 a ha).2 i hi⟩⟩

theorem BytW.of_heap {w w' : World} {s : Sl} {l : List UInt8} (h : BytW w s l) (e : w'.heap = w.heap) : BytW w' s l := by
  refine ⟨h.1, h.2.1, fun a ha i hi => ⟨(h.2.2 a ha i hi).1, ?_⟩⟩
  have := (h.2.2 a ha i hi).2
  simp only [World.cell?, e] at this ⊢
  exact this

theorem BytW.frame {w w' : World} {s : Sl} {l : List UInt8} (h : BytW w s l) (hf : Fr (fun _ => False) w w') : BytW w' s l :=
  ⟨h.1, h.2.1, fun a ha i hi => ⟨(h.2.2 a ha i hi).1, (hf.cell (p := ⟨a.block, a.off + i, none⟩) (World.block_lt_of_cell? w _ (h.2.2 a ha i hi).2) (fun e => e)).trans (h.2.2 a ha i hi).2⟩⟩

theorem zzCmp_weak (s t : Sl) (ls lt : List UInt8) (w : World) (hs : BytW w s ls) (ht : BytW w t lt) (hm1 : s.n ≤ maxLen) (hm2 : t.n ≤ maxLen) :
    Calls Try.prog 16 #[s.v, t.v] w fun e w' => e = .returned (.int .i64 (Pl.cmp ls lt)) ∧ ∃ m, w' = w.drewN m := by
  obtain ⟨a1, n1, c1⟩ := s
  obtain ⟨a2, n2, c2⟩ := t
  by_cases h0 : n1 = 0 ∨ n2 = 0
  · exact zzCmp_zero a1 a2 n1 c1 n2 c2 ls lt w hs.1 ht.1 hm1 hm2 h0
  · cases a1 with
    | none => exact absurd (.inl (hs.2.1 rfl)) h0
    | some a =>
      cases a2 with
      | none => exact absurd (.inr (ht.2.1 rfl)) h0
      | some b =>
        obtain ⟨b1, o1, p1⟩ := a
        obtain ⟨b2, o2, p2⟩ := b
        have l1 : 0 < ls.length := by rw [hs.1]; show 0 < n1; omega
        have l2 : 0 < lt.length := by rw [ht.1]; show 0 < n2; omega
        have e1 : p1 = none := (hs.2.2 _ rfl 0 l1).1
        have e2 : p2 = none := (ht.2.2 _ rfl 0 l2).1
        subst e1 e2
        exact zzCmp_some b1 o1 n1 c1 b2 o2 n2 c2 ls lt w hs.1 ht.1 hm1 hm2 (fun i h => (hs.2.2 _ rfl i h).2) (fun i h => (ht.2.2 _ rfl i h).2)

theorem cmpW (w : World) (s t : Sl) (ls lt : List UInt8) (hs : BytW w s ls) (ht : BytW w t lt) (h1 : s.n ≤ maxLen) (h2 : t.n ≤ maxLen) : CmpIs w s t (Pl.cmp ls lt) := fun W hW =>
  zzCmp_weak s t ls lt W (hs.of_heap hW) (ht.of_heap hW) h1 h2

theorem cmpIs (w : World) (s t : Sl) (ls lt : List UInt8) (hs : Byt w s ls) (ht : Byt w t lt) (h1 : s.n ≤ maxLen) (h2 : t.n ≤ maxLen) : CmpIs w s t (Pl.cmp ls lt) := cmpW w s t ls lt hs.weak ht.weak h1 h2

theorem CmpIs.drew {w : World} {s t : Sl} {c : Int} (h : CmpIs w s t c) : ∀ n, Calls Try.prog 16 #[.slice s.a s.n s.c, .slice t.a t.n t.c] (w.drewN n) fun e w' => e = .returned (.int .i64 c) ∧ ∃ m, w' = (w.drewN n).drewN m := fun n => h _ rfl

/-- the elements of a [][]byte, with their bytes -/
structure LstB (w : World) (s : Sl) (ss : List Sl) (ls : List (List UInt8)) : Prop where
  lst : Lst w s ss
  len : ls.length = ss.length
  byt : ∀ i (h : i < ss.length) (h' : i < ls.length), Byt w ss[i] ls[i]
  small : ∀ t ∈ ss, t.n ≤ maxLen

/-- .. of empty ones' addresses nothing is said -/
structure LstW (w : World) (s : Sl) (ss : List Sl) (ls : List (List UInt8)) : Prop where
  lst : Lst w s ss
  len : ls.length = ss.length
  byt : ∀ i (h : i < ss.length) (h' : i < ls.length), BytW w ss[i] ls[i]
  small : ∀ t ∈ ss, t.n ≤ maxLen

theorem LstB.weak {w : World} {s : Sl} {ss : List Sl} {ls : List (List UInt8)} (h : LstB w s ss ls) : LstW w s ss ls := ⟨h.lst, h.len, fun i h1 h2 => (h.byt i h1 h2).weak, h.small⟩

theorem LstW.at {w : World} {a : Option Addr} {n c : Nat} {ss : List Sl} {ls : List (List UInt8)} (h : LstW w ⟨a, n, c⟩ ss ls) {k : Nat} (hk : k < n) :
    ∃ (b o : Nat) (t : Sl) (l : List UInt8), a = some ⟨b, o, none⟩ ∧ w.cell? ⟨b, o + k, none⟩ = some (.slice t.a t.n t.c) ∧ ss[k]? = some t ∧ ls[k]? = some l ∧ BytW w t l ∧ t.n ≤ maxLen := by
  obtain ⟨b, o, t, h1, h2, h3⟩ := h.lst.at hk
  obtain ⟨hk1, e1⟩ := List.getElem?_eq_some_iff.1 h3
  have hk2 : k < ls.length := by rw [h.len]; exact hk1
  refine ⟨b, o, t, ls[k], h1, h2, h3, List.getElem?_eq_getElem hk2, ?_, h.small t (List.mem_of_getElem? h3)⟩
  have := h.byt k hk1 hk2
  rwa [e1] at this

theorem LstW.at' {w : World} {b o n c : Nat} {ss : List Sl} {ls : List (List UInt8)} (h : LstW w ⟨some ⟨b, o, none⟩, n, c⟩ ss ls) {k : Nat} (hk : k < n) :
    ∃ (t : Sl) (l : List UInt8), w.cell? ⟨b, o + k, none⟩ = some (.slice t.a t.n t.c) ∧ ss[k]? = some t ∧ ls[k]? = some l ∧ BytW w t l ∧ t.n ≤ maxLen := by
  obtain ⟨b', o', t, l, h1, h2⟩ := h.at hk
  cases h1
  exact ⟨t, l, h2⟩

theorem LstW.n_eq {w : World} {a : Option Addr} {n c : Nat} {ss : List Sl} {ls : List (List UInt8)} (h : LstW w ⟨a, n, c⟩ ss ls) : ls.length = n := by rw [h.len]; exact h.lst.1
theorem LstB.n_eq {w : World} {a : Option Addr} {n c : Nat} {ss : List Sl} {ls : List (List UInt8)} (h : LstB w ⟨a, n, c⟩ ss ls) : ls.length = n := h.weak.n_eq

theorem get_of {α : Type} {l : List α} {k : Nat} {x : α} (h : l[k]? = some x) (hk : k < l.length) : l[k] = x := by
  rw [List.getElem?_eq_getElem hk] at h; exact Option.some.inj h

set_option maxHeartbeats 2000000 in
theorem zzRangesOK_any (s e t : Sl) (ss es : List Sl) (ls le : List (List UInt8)) (lt : List UInt8) (op : Bool) (w : World) (h1 : LstW w s ss ls) (h2 : LstW w e es le) (ht : BytW w t lt) (hn : e.n = s.n) (hn1 : s.n ≤ 1024) (ht1 : t.n ≤ maxLen) :
    Calls Try.prog 11 #[s.v, e.v, t.v, .bool op] w (RokPost ls le lt op w) := by
  obtain ⟨sa, n, sc⟩ := s
  obtain ⟨ea, en, ec⟩ := e
  simp only at hn hn1
  subst hn
  obtain ⟨ta, tn, tc⟩ := t
  change Calls Try.prog 11 #[.slice sa en sc, .slice ea en ec, .slice ta tn tc, .bool op] w (RokPost ls le lt op w)
  have H1 := hide h1; have H2 := hide h2; have HT := hide ht; have HT1 := hide ht1
  clear h1 h2 ht ht1
  go_enter Try.func11, Try.ntmps11
  go_wp2_with fail
  go_loopw [9] (fun i wr => ∃ k m : Nat, k ≤ en ∧ i = .int .i64 k ∧ Hid (Rok ls le lt op k) ∧ Hid (wr = w.drewN m)) (fun i _ => en - (intOf i).toNat)
  case atStart => exact ⟨0, 0, Nat.zero_le _, rfl, hide ⟨fun i h => by omega, fun i j h => by omega⟩, hide rfl⟩
  case round =>
    obtain ⟨k, m, hk, rfl, HR, HW⟩ := hrel
    by_cases hlt : k < en
    · obtain ⟨b1, o1, x, lx, rfl, hc1, g1, g2, g3, g4⟩ := (unhide H1).at hlt
      obtain ⟨b2, o2, y, ly, rfl, hc2, k1, k2, k3, k4⟩ := (unhide H2).at hlt
      have hc1' : wr.cell? ⟨b1, o1 + k, none⟩ = some (.slice x.a x.n x.c) := by rw [unhide HW]; exact hc1
      have hc2' : wr.cell? ⟨b2, o2 + k, none⟩ = some (.slice y.a y.n y.c) := by rw [unhide HW]; exact hc2
      have HXY := hide (show CmpIs wr x y (Pl.cmp lx ly) from by rw [unhide HW]; exact cmpW w x y lx ly g3 k3 g4 k4)
      have HYT := hide (show CmpIs wr y ⟨ta, tn, tc⟩ (Pl.cmp ly lt) from by rw [unhide HW]; exact cmpW w y _ ly lt k3 (unhide HT) k4 (unhide HT1))
      have hyn : ly.length = y.n := k3.1
      have hyn2 : (y.n : Int) ≤ 9223372036854775807 := by unfold maxLen at k4; omega
      have G2 := hide g2; have K2 := hide k2; have G3 := hide g3; have K3 := hide k3; have G4 := hide g4; have K4 := hide k4; have HYN := hide hyn; have G1 := hide g1; have K1 := hide k1
      clear g1 g2 g3 g4 k1 k2 k3 k4 hc1 hc2 hyn
      by_cases hy0 : y.n = 0
      · go_wp2_with fail
        go_quiet (fail)
        go_wp2_with fail
        go_ret
        refine ⟨⟨_, by rw [unhide HW, World.drewN_drewN]⟩, false, rfl, fun h => by cases h⟩
      · have hy1 : ((y.n : Int) == 0) = false := by rw [beq_eq_false_iff_ne]; omega
        obtain ⟨c1, hc1⟩ : ∃ c, c = Pl.cmp lx ly := ⟨_, rfl⟩
        rw [← hc1] at HXY
        have HC1 := hide hc1
        clear hc1
        by_cases hcc : 0 ≤ c1
        · go_wp2_with fail
          go_quiet ((go_at_call 16; exact Calls.quiet_of (unhide HXY _ rfl)))
          go_wp2_with fail
          go_ret
          refine ⟨⟨_, by rw [unhide HW, World.drewN_drewN]⟩, false, rfl, fun h => by cases h⟩
        · have HLT := hide (show Pl.lt lx ly from by have := unhide HC1; unfold Pl.lt; omega)
          have HC1C := hide (show w.cell? ⟨b1, o1 + k, none⟩ = some (.slice x.a x.n x.c) from by have := hc1'; rw [unhide HW] at this; exact this)
          have HC2C := hide (show w.cell? ⟨b2, o2 + k, none⟩ = some (.slice y.a y.n y.c) from by have := hc2'; rw [unhide HW] at this; exact this)
          by_cases hop : op = true
          · subst hop
            obtain ⟨c2, hc2⟩ : ∃ c, c = Pl.cmp ly lt := ⟨_, rfl⟩
            rw [← hc2] at HYT
            have HC2 := hide hc2
            clear hc2
            go_wp2_with fail
            go_quiet ((go_at_call 16; exact Calls.quiet_of (unhide HXY _ rfl)))
            go_wp2_with fail
            refine (unhide HYT (wr.drewN nq) rfl).mono ?_
            rintro e W9 ⟨rfl, m9, hW9⟩
            rw [unhide HW, World.drewN_drewN, World.drewN_drewN] at hW9
            by_cases hc2 : 0 ≤ c2
            · have HW9 := hide hW9
              clear hW9
              go_wp2_with fail
              go_ret
              refine ⟨⟨_, unhide HW9⟩, false, rfl, fun h => by cases h⟩
            have HONE := hide (show RokAt ls le lt true k from ⟨fun h e => by rw [get_of (unhide K2) h] at e; subst e; exact hy0 (by have := unhide HYN; simp at this; omega), fun h h' => by rw [get_of (unhide K2) h, get_of (unhide G2) h']; exact unhide HLT, fun _ h => by rw [get_of (unhide K2) h]; have := unhide HC2; unfold Pl.lt; omega⟩)
            have HW9 := hide hW9
            clear hW9 hc1' hc2'
            go_wp2_with fail
            go_loopw [10] (fun i2 wr2 => ∃ j m2 : Nat, k + 1 ≤ j ∧ j ≤ en ∧ i2 = .int .i64 j ∧ Hid (∀ j', k < j' → j' < j → RokTo ls le k j') ∧ Hid (wr2 = w.drewN m2)) (fun i2 _ => en - (intOf i2).toNat)
            case atStart => exact ⟨k + 1, _, Nat.le_refl _, hlt, by first | rfl | go_num, hide (fun j' h1 h2 => by omega), HW9⟩
            case round =>
              obtain ⟨j, m2, hj0, hj, rfl, HJ, HW2⟩ := hrel
              by_cases hjl : j < en
              · obtain ⟨x2, lx2, f1, f2, f3, f4, f5⟩ := (unhide H1).at' hjl
                obtain ⟨y2, ly2, e1, e2, e3, e4, e5⟩ := (unhide H2).at' hjl
                have q1 : wr.cell? ⟨b1, o1 + j, none⟩ = some (.slice x2.a x2.n x2.c) := by rw [unhide HW2]; exact f1
                have q2 : wr.cell? ⟨b2, o2 + j, none⟩ = some (.slice y2.a y2.n y2.c) := by rw [unhide HW2]; exact e1
                have q3 : wr.cell? ⟨b1, o1 + k, none⟩ = some (.slice x.a x.n x.c) := by rw [unhide HW2]; exact unhide HC1C
                have q4 : wr.cell? ⟨b2, o2 + k, none⟩ = some (.slice y.a y.n y.c) := by rw [unhide HW2]; exact unhide HC2C
                have HA := hide (show CmpIs wr y x2 (Pl.cmp ly lx2) from by rw [unhide HW2]; exact cmpW w y x2 ly lx2 (unhide K3) f4 (unhide K4) f5)
                have HB := hide (show CmpIs wr y2 x (Pl.cmp ly2 lx) from by rw [unhide HW2]; exact cmpW w y2 x ly2 lx e4 (unhide G3) e5 (unhide G4))
                have F2 := hide f3; have E2 := hide e3
                clear f1 f2 f3 f4 f5 e1 e2 e3 e4 e5
                obtain ⟨c3, hc3⟩ : ∃ c, c = Pl.cmp ly lx2 := ⟨_, rfl⟩
                obtain ⟨c4, hc4⟩ : ∃ c, c = Pl.cmp ly2 lx := ⟨_, rfl⟩
                rw [← hc3] at HA; rw [← hc4] at HB
                have HC3 := hide hc3; have HC4 := hide hc4
                clear hc3 hc4
                have HA' := hide (unhide HA).drew; have HB' := hide (unhide HB).drew
                clear HA HB
                have hto : Hid (c3 < 0 ∨ c4 < 0 → RokTo ls le k j) := hide (fun h h1 h2 h3 h4 => by
                  rw [get_of (unhide K2) h1, get_of (unhide G2) h2, get_of (unhide E2) h3, get_of (unhide F2) h4]
                  rcases h with h | h
                  · exact .inl (by rw [unhide HC3] at h; exact h)
                  · exact .inr (by rw [unhide HC4] at h; exact h))
                have hnext : Hid ((c3 < 0 ∨ c4 < 0) → ∀ j', k < j' → j' < j + 1 → RokTo ls le k j') := hide (fun h j' g1 g2 => by
                  by_cases e : j' < j
                  · exact (unhide HJ) j' g1 e
                  · have : j' = j := by omega
                    subst this
                    exact (unhide hto) h)
                by_cases d3 : 0 ≤ c3
                · by_cases d4 : 0 ≤ c4
                  · go_wp2_with fail
                    go_quiet (first | (go_at_call 16; with_reducible exact Calls.quiet_of (unhide HA' _)) | (go_at_call 16; with_reducible exact Calls.quiet_of (unhide HB' _)))
                    go_wp2_with fail
                    go_ret
                    refine ⟨⟨_, by rw [unhide HW2, World.drewN_drewN]⟩, false, rfl, fun h => by cases h⟩
                  · have D4 := hide d4
                    go_wp2_with fail
                    go_quiet (first | (go_at_call 16; with_reducible exact Calls.quiet_of (unhide HA' _)) | (go_at_call 16; with_reducible exact Calls.quiet_of (unhide HB' _)))
                    go_wp2_with fail
                    go_roundw
                    case rel => exact ⟨j + 1, _, by omega, by omega, by go_num, hide ((unhide hnext) (.inr (by have := unhide D4; omega))), hide (by rw [unhide HW2, World.drewN_drewN])⟩
                    case measure => simp [intOf]; omega
                · have D3 := hide d3
                  have d3' : decide (0 ≤ c3) = false := by rw [decide_eq_false_iff_not]; exact d3
                  have d3'' : c3 < 0 := by omega
                  go_wp2_with fail
                  go_quiet (first | (go_at_call 16; with_reducible exact Calls.quiet_of (unhide HA' _)) | (go_at_call 16; with_reducible exact Calls.quiet_of (unhide HB' _)))
                  go_wp2_with fail
                  go_roundw
                  case rel => exact ⟨j + 1, _, by omega, by omega, by go_num, hide ((unhide hnext) (.inl (by have := unhide D3; omega))), hide (by rw [unhide HW2, World.drewN_drewN])⟩
                  case measure => simp [intOf]; omega
              · go_wp2_with fail
                go_roundw
                case rel =>
                  refine ⟨k + 1, m2, by omega, by go_num, hide ⟨fun i hi => ?_, fun i i2 hi hii => ?_⟩, HW2⟩
                  · by_cases e : i < k
                    · exact (unhide HR).one i e
                    · have : i = k := by omega
                      subst this
                      exact unhide HONE
                  · by_cases e : i < k
                    · exact (unhide HR).two i i2 e hii
                    · have : i = k := by omega
                      subst this
                      intro h1 h2 h3 h4
                      exact (unhide HJ) i2 hii (by have := (unhide H2).n_eq; omega) h1 h2 h3 h4
                case measure => simp [intOf]; omega
          · have hop2 : op = false := by simpa using hop
            subst hop2
            clear hop
            go_wp2_with fail
            go_quiet ((go_at_call 16; exact Calls.quiet_of (unhide HXY _ rfl)))
            go_wp2_with fail
            obtain ⟨W9, hW9⟩ : ∃ W, W = wr.drewN nq := ⟨_, rfl⟩
            rw [← hW9]
            rw [unhide HW, World.drewN_drewN] at hW9
            have HONE := hide (show RokAt ls le lt false k from ⟨fun h e => by rw [get_of (unhide K2) h] at e; subst e; exact hy0 (by have := unhide HYN; simp at this; omega), fun h h' => by rw [get_of (unhide K2) h, get_of (unhide G2) h']; exact unhide HLT, fun h => by cases h⟩)
            have HW9 := hide hW9
            clear hW9 hc1' hc2'
            go_loopw [10] (fun i2 wr2 => ∃ j m2 : Nat, k + 1 ≤ j ∧ j ≤ en ∧ i2 = .int .i64 j ∧ Hid (∀ j', k < j' → j' < j → RokTo ls le k j') ∧ Hid (wr2 = w.drewN m2)) (fun i2 _ => en - (intOf i2).toNat)
            case atStart => exact ⟨k + 1, _, Nat.le_refl _, hlt, by first | rfl | go_num, hide (fun j' h1 h2 => by omega), HW9⟩
            case round =>
              obtain ⟨j, m2, hj0, hj, rfl, HJ, HW2⟩ := hrel
              by_cases hjl : j < en
              · obtain ⟨x2, lx2, f1, f2, f3, f4, f5⟩ := (unhide H1).at' hjl
                obtain ⟨y2, ly2, e1, e2, e3, e4, e5⟩ := (unhide H2).at' hjl
                have q1 : wr.cell? ⟨b1, o1 + j, none⟩ = some (.slice x2.a x2.n x2.c) := by rw [unhide HW2]; exact f1
                have q2 : wr.cell? ⟨b2, o2 + j, none⟩ = some (.slice y2.a y2.n y2.c) := by rw [unhide HW2]; exact e1
                have q3 : wr.cell? ⟨b1, o1 + k, none⟩ = some (.slice x.a x.n x.c) := by rw [unhide HW2]; exact unhide HC1C
                have q4 : wr.cell? ⟨b2, o2 + k, none⟩ = some (.slice y.a y.n y.c) := by rw [unhide HW2]; exact unhide HC2C
                have HA := hide (show CmpIs wr y x2 (Pl.cmp ly lx2) from by rw [unhide HW2]; exact cmpW w y x2 ly lx2 (unhide K3) f4 (unhide K4) f5)
                have HB := hide (show CmpIs wr y2 x (Pl.cmp ly2 lx) from by rw [unhide HW2]; exact cmpW w y2 x ly2 lx e4 (unhide G3) e5 (unhide G4))
                have F2 := hide f3; have E2 := hide e3
                clear f1 f2 f3 f4 f5 e1 e2 e3 e4 e5
                obtain ⟨c3, hc3⟩ : ∃ c, c = Pl.cmp ly lx2 := ⟨_, rfl⟩
                obtain ⟨c4, hc4⟩ : ∃ c, c = Pl.cmp ly2 lx := ⟨_, rfl⟩
                rw [← hc3] at HA; rw [← hc4] at HB
                have HC3 := hide hc3; have HC4 := hide hc4
                clear hc3 hc4
                have HA' := hide (unhide HA).drew; have HB' := hide (unhide HB).drew
                clear HA HB
                have hto : Hid (c3 < 0 ∨ c4 < 0 → RokTo ls le k j) := hide (fun h h1 h2 h3 h4 => by
                  rw [get_of (unhide K2) h1, get_of (unhide G2) h2, get_of (unhide E2) h3, get_of (unhide F2) h4]
                  rcases h with h | h
                  · exact .inl (by rw [unhide HC3] at h; exact h)
                  · exact .inr (by rw [unhide HC4] at h; exact h))
                have hnext : Hid ((c3 < 0 ∨ c4 < 0) → ∀ j', k < j' → j' < j + 1 → RokTo ls le k j') := hide (fun h j' g1 g2 => by
                  by_cases e : j' < j
                  · exact (unhide HJ) j' g1 e
                  · have : j' = j := by omega
                    subst this
                    exact (unhide hto) h)
                by_cases d3 : 0 ≤ c3
                · by_cases d4 : 0 ≤ c4
                  · go_wp2_with fail
                    go_quiet (first | (go_at_call 16; with_reducible exact Calls.quiet_of (unhide HA' _)) | (go_at_call 16; with_reducible exact Calls.quiet_of (unhide HB' _)))
                    go_wp2_with fail
                    go_ret
                    refine ⟨⟨_, by rw [unhide HW2, World.drewN_drewN]⟩, false, rfl, fun h => by cases h⟩
                  · have D4 := hide d4
                    go_wp2_with fail
                    go_quiet (first | (go_at_call 16; with_reducible exact Calls.quiet_of (unhide HA' _)) | (go_at_call 16; with_reducible exact Calls.quiet_of (unhide HB' _)))
                    go_wp2_with fail
                    go_roundw
                    case rel => exact ⟨j + 1, _, by omega, by omega, by go_num, hide ((unhide hnext) (.inr (by have := unhide D4; omega))), hide (by rw [unhide HW2, World.drewN_drewN])⟩
                    case measure => simp [intOf]; omega
                · have D3 := hide d3
                  have d3' : decide (0 ≤ c3) = false := by rw [decide_eq_false_iff_not]; exact d3
                  have d3'' : c3 < 0 := by omega
                  go_wp2_with fail
                  go_quiet (first | (go_at_call 16; with_reducible exact Calls.quiet_of (unhide HA' _)) | (go_at_call 16; with_reducible exact Calls.quiet_of (unhide HB' _)))
                  go_wp2_with fail
                  go_roundw
                  case rel => exact ⟨j + 1, _, by omega, by omega, by go_num, hide ((unhide hnext) (.inl (by have := unhide D3; omega))), hide (by rw [unhide HW2, World.drewN_drewN])⟩
                  case measure => simp [intOf]; omega
              · go_wp2_with fail
                go_roundw
                case rel =>
                  refine ⟨k + 1, m2, by omega, by go_num, hide ⟨fun i hi => ?_, fun i i2 hi hii => ?_⟩, HW2⟩
                  · by_cases e : i < k
                    · exact (unhide HR).one i e
                    · have : i = k := by omega
                      subst this
                      exact unhide HONE
                  · by_cases e : i < k
                    · exact (unhide HR).two i i2 e hii
                    · have : i = k := by omega
                      subst this
                      intro h1 h2 h3 h4
                      exact (unhide HJ) i2 hii (by have := (unhide H2).n_eq; omega) h1 h2 h3 h4
                case measure => simp [intOf]; omega
    · go_wp2_with fail
      go_ret
      refine ⟨⟨_, unhide HW⟩, true, rfl, fun _ => ?_⟩
      have : k = le.length := by rw [(unhide H2).n_eq]; omega
      rw [← this]
      exact unhide HR
end Go.Proofs.Qxb6615626a
