/-
  The laws' own small functions: zzCmp, zzClone, zzCloneAll, zzTake ..
-/
import Derived.Test.Qxb6615626aRow
import Derived.Deep.QuietTactic
import Derived.BigQuiet
import Derived.RegionTactic
import Derived.LoopN
namespace Go.Proofs.Qxb6615626a
open Go.RowKit
set_option linter.unusedVariables false

/-- the first k bytes agree -/
def Agree (a b : List UInt8) (k : Nat) : Prop := k ≤ a.length ∧ k ≤ b.length ∧ a.take k = b.take k

theorem cmp_append : ∀ (p a b : List UInt8), Pl.cmp (p ++ a) (p ++ b) = Pl.cmp a b
  | [], a, b => rfl
  | x :: p, a, b => by
    simp only [List.cons_append, Pl.cmp]
    rw [if_neg (UInt8.lt_irrefl x), if_neg (UInt8.lt_irrefl x)]
    exact cmp_append p a b

theorem Agree.cmp {a b : List UInt8} {k : Nat} (h : Agree a b k) : Pl.cmp a b = Pl.cmp (a.drop k) (b.drop k) := by
  conv => lhs; rw [← List.take_append_drop k a, ← List.take_append_drop k b, h.2.2]
  exact cmp_append _ _ _

theorem Agree.lt {a b : List UInt8} {k : Nat} (h : Agree a b k) (ha : k < a.length) (hb : k < b.length) (hl : a[k] < b[k]) : Pl.cmp a b = -1 := by
  rw [h.cmp, List.drop_eq_getElem_cons ha, List.drop_eq_getElem_cons hb]
  simp [Pl.cmp, hl]
theorem Agree.gt {a b : List UInt8} {k : Nat} (h : Agree a b k) (ha : k < a.length) (hb : k < b.length) (hl : b[k] < a[k]) : Pl.cmp a b = 1 := by
  rw [h.cmp, List.drop_eq_getElem_cons ha, List.drop_eq_getElem_cons hb]
  have : ¬ a[k] < b[k] := by rw [UInt8.lt_iff_toNat_lt] at *; omega
  simp [Pl.cmp, hl, this]
theorem Agree.succ {a b : List UInt8} {k : Nat} (h : Agree a b k) (ha : k < a.length) (hb : k < b.length) (h1 : ¬ a[k] < b[k]) (h2 : ¬ b[k] < a[k]) : Agree a b (k + 1) := by
  refine ⟨ha, hb, ?_⟩
  rw [List.take_succ_eq_append_getElem ha, List.take_succ_eq_append_getElem hb, h.2.2, Pl.u8_tri _ _ h1 h2]
theorem Agree.short {a b : List UInt8} {k : Nat} (h : Agree a b k) (ha : a.length = k) (hb : k < b.length) : Pl.cmp a b = -1 := by
  rw [h.cmp, List.drop_eq_getElem_cons hb, List.drop_eq_nil_iff.2 (by omega)]; rfl
theorem Agree.long {a b : List UInt8} {k : Nat} (h : Agree a b k) (hb : b.length = k) (ha : k < a.length) : Pl.cmp a b = 1 := by
  have e : b.drop k = [] := List.drop_eq_nil_iff.2 (by omega)
  rw [h.cmp, List.drop_eq_getElem_cons ha, e]; rfl
theorem Agree.all {a b : List UInt8} {k : Nat} (h : Agree a b k) (ha : a.length = k) (hb : b.length = k) : Pl.cmp a b = 0 := by
  rw [h.cmp, List.drop_eq_nil_iff.2 (by omega), List.drop_eq_nil_iff.2 (by omega)]; rfl

theorem u8_lt (a b : UInt8) : ((a.toNat : Int) < (b.toNat : Int)) ↔ a < b := by rw [UInt8.lt_iff_toNat_lt]; omega

/-- what zzCmp gives once one slice is through -/
theorem Agree.fin {a b : List UInt8} {k : Nat} (h : Agree a b k) (hk : k = a.length ∨ k = b.length) : Pl.cmp a b = if a.length < b.length then -1 else if b.length < a.length then 1 else 0 := by
  have h1 := h.1; have h2 := h.2.1
  by_cases c1 : a.length < b.length
  · rw [if_pos c1]; exact h.short (by omega) (by omega)
  · rw [if_neg c1]
    by_cases c2 : b.length < a.length
    · rw [if_pos c2]; exact h.long (by omega) (by omega)
    · rw [if_neg c2]; exact h.all (by omega) (by omega)

set_option maxHeartbeats 1000000 in
/-- zzCmp at two slices, b2 the shorter or not, that are not nil -/
theorem zzCmp_some (b1 o1 n1 c1 b2 o2 n2 c2 : Nat) (l1 l2 : List UInt8) (w : World) (h1 : l1.length = n1) (h2 : l2.length = n2) (hm1 : n1 ≤ maxLen) (hm2 : n2 ≤ maxLen)
    (k1 : ∀ i (h : i < l1.length), w.cell? ⟨b1, o1 + i, none⟩ = some (.int .u8 (l1[i].toNat : Int))) (k2 : ∀ i (h : i < l2.length), w.cell? ⟨b2, o2 + i, none⟩ = some (.int .u8 (l2[i].toNat : Int))) :
    Calls Try.prog 16 #[.slice (some ⟨b1, o1, none⟩) n1 c1, .slice (some ⟨b2, o2, none⟩) n2 c2] w fun e w' => e = .returned (.int .i64 (Pl.cmp l1 l2)) ∧ ∃ m, w' = w.drewN m := by
  unfold maxLen at hm1 hm2
  have H1 := hide h1; have H2 := hide h2; have K1 := hide k1; have K2 := hide k2
  clear h1 h2 k1 k2
  obtain ⟨n, hnm, hn1, hn2, hn3⟩ : ∃ n, (if n2 < n1 then n2 else n1) = n ∧ n ≤ n1 ∧ n ≤ n2 ∧ Hid (n = n1 ∨ n = n2) := by
    by_cases hn : n2 < n1
    · exact ⟨n2, by rw [if_pos hn], by omega, by omega, hide (.inr rfl)⟩
    · exact ⟨n1, by rw [if_neg hn], by omega, by omega, hide (.inl rfl)⟩
  have hcase : (n2 < n1 ∧ n = n2) ∨ (¬ n2 < n1 ∧ n = n1) := by
    by_cases hn : n2 < n1
    · rw [if_pos hn] at hnm; exact .inl ⟨hn, hnm.symm⟩
    · rw [if_neg hn] at hnm; exact .inr ⟨hn, hnm.symm⟩
  clear hnm
  rcases hcase with ⟨hn, rfl⟩ | ⟨hn, rfl⟩
  all_goals
    go_enter Try.func16, Try.ntmps16
    go_wp2_with fail
    go_loopw [6] (fun i wr => ∃ k m : Nat, k ≤ n ∧ i = .int .i64 k ∧ Hid (Agree l1 l2 k) ∧ wr = w.drewN m) (fun i _ => n - (intOf i).toNat)
    case atStart => exact ⟨0, 0, Nat.zero_le _, rfl, hide ⟨Nat.zero_le _, Nat.zero_le _, rfl⟩, rfl⟩
    case round =>
      obtain ⟨k, m, hk, rfl, HA, rfl⟩ := hrel
      by_cases hlt : k < n
      · have a1 : k < l1.length := by have := unhide H1; omega
        have a2 : k < l2.length := by have := unhide H2; omega
        have x1 := (unhide K1) k a1; have x2 := (unhide K2) k a2
        obtain ⟨u, hu⟩ : ∃ u : Int, u = (l1[k].toNat : Int) := ⟨_, rfl⟩
        obtain ⟨v, hv⟩ : ∃ v : Int, v = (l2[k].toNat : Int) := ⟨_, rfl⟩
        rw [← hu] at x1; rw [← hv] at x2
        have HU := hide hu; have HV := hide hv
        clear hu hv
        by_cases c1 : u < v
        · go_wp2_with fail
          go_quiet (fail)
          go_wp2_with fail
          go_ret
          refine ⟨?_, _, by rw [World.drewN_drewN]⟩
          have e : Pl.cmp l1 l2 = -1 := (unhide HA).lt a1 a2 ((u8_lt _ _).1 (by rw [← unhide HU, ← unhide HV]; exact c1))
          rw [e]; rfl
        · by_cases c2 : v < u
          · go_wp2_with fail
            go_quiet (fail)
            go_wp2_with fail
            go_quiet (fail)
            go_wp2_with fail
            go_ret
            refine ⟨?_, _, by rw [World.drewN_drewN, World.drewN_drewN]⟩
            have e : Pl.cmp l1 l2 = 1 := (unhide HA).gt a1 a2 ((u8_lt _ _).1 (by rw [← unhide HU, ← unhide HV]; exact c2))
            rw [e]; rfl
          · go_wp2_with fail
            go_quiet (fail)
            go_wp2_with fail
            go_quiet (fail)
            go_wp2_with fail
            go_roundw
            case rel => exact ⟨k + 1, _, by omega, by go_num, hide ((unhide HA).succ a1 a2 (fun h => absurd ((u8_lt _ _).2 h) (by rw [← unhide HU, ← unhide HV]; omega)) (fun h => absurd ((u8_lt _ _).2 h) (by rw [← unhide HU, ← unhide HV]; omega))), by first | rfl | rw [World.drewN_drewN, World.drewN_drewN]⟩
            case measure => simp [intOf]; omega
      · have hkn : k = n := by omega
        have e := (unhide HA).fin (by have := unhide H1; have := unhide H2; have := unhide hn3; omega)
        have HE := hide e
        clear e hkn
        by_cases d1 : l1.length < l2.length
        · have D1 := hide d1
          rw [unhide H1, unhide H2] at d1
          first
            | (exfalso; omega)
            | (go_wp2_with fail
               go_ret
               refine ⟨?_, _, rfl⟩
               rw [unhide HE, if_pos (unhide D1)]; rfl)
        · by_cases d2 : l2.length < l1.length
          · have D1 := hide d1; have D2 := hide d2
            rw [unhide H1, unhide H2] at d1; rw [unhide H1, unhide H2] at d2
            first
              | (exfalso; omega)
              | (go_wp2_with fail
                 go_ret
                 refine ⟨?_, _, rfl⟩
                 rw [unhide HE, if_neg (unhide D1), if_pos (unhide D2)]; rfl)
          · have D1 := hide d1; have D2 := hide d2
            rw [unhide H1, unhide H2] at d1; rw [unhide H1, unhide H2] at d2
            first
              | (exfalso; omega)
              | (go_wp2_with fail
                 go_ret
                 refine ⟨?_, _, rfl⟩
                 rw [unhide HE, if_neg (unhide D1), if_neg (unhide D2)]; rfl)

set_option maxHeartbeats 1000000 in
/-- zzCmp where one of the slices is empty -/
theorem zzCmp_zero (a1 a2 : Option Addr) (n1 c1 n2 c2 : Nat) (l1 l2 : List UInt8) (w : World) (h1 : l1.length = n1) (h2 : l2.length = n2) (hm1 : n1 ≤ maxLen) (hm2 : n2 ≤ maxLen) (h0 : n1 = 0 ∨ n2 = 0) :
    Calls Try.prog 16 #[.slice a1 n1 c1, .slice a2 n2 c2] w fun e w' => e = .returned (.int .i64 (Pl.cmp l1 l2)) ∧ ∃ m, w' = w.drewN m := by
  unfold maxLen at hm1 hm2
  have hA : Agree l1 l2 0 := ⟨Nat.zero_le _, Nat.zero_le _, rfl⟩
  have e := hA.fin (by omega)
  rw [h1, h2] at e
  have HE := hide e
  clear e hA h1 h2
  by_cases hn : n2 < n1
  · have hz : n2 = 0 := by omega
    subst hz
    go_enter Try.func16, Try.ntmps16
    go_wp2_with fail
    refine wp_loop_rounds 1 ?_
    rw [rounds_succ]
    go_wp2_with fail
    go_ret
    refine ⟨?_, 0, rfl⟩
    rw [unhide HE, if_neg (by omega), if_pos hn]; rfl
  · have hz : n1 = 0 := by omega
    subst hz
    clear h0
    by_cases hn2 : 0 < n2
    · go_enter Try.func16, Try.ntmps16
      go_wp2_with fail
      refine wp_loop_rounds 1 ?_
      rw [rounds_succ]
      go_wp2_with fail
      go_ret
      refine ⟨?_, 0, rfl⟩
      rw [unhide HE, if_pos hn2]; rfl
    · have hz : n2 = 0 := by omega
      subst hz
      go_enter Try.func16, Try.ntmps16
      go_wp2_with fail
      refine wp_loop_rounds 1 ?_
      rw [rounds_succ]
      go_wp2_with fail
      go_ret
      refine ⟨?_, 0, rfl⟩
      rw [unhide HE]; rfl

/-- zzCmp -/
theorem zzCmp_any (s t : Sl) (ls lt : List UInt8) (w : World) (hs : Byt w s ls) (ht : Byt w t lt) (hm1 : s.n ≤ maxLen) (hm2 : t.n ≤ maxLen) :
    Calls Try.prog 16 #[s.v, t.v] w fun e w' => e = .returned (.int .i64 (Pl.cmp ls lt)) ∧ ∃ m, w' = w.drewN m := by
  obtain ⟨a1, n1, c1⟩ := s
  obtain ⟨a2, n2, c2⟩ := t
  cases a1 with
  | none => exact zzCmp_zero none a2 n1 c1 n2 c2 ls lt w hs.1 ht.1 hm1 hm2 (.inl (hs.2.1 rfl))
  | some a =>
    cases a2 with
    | none => exact zzCmp_zero (some a) none n1 c1 n2 c2 ls lt w hs.1 ht.1 hm1 hm2 (.inr (ht.2.1 rfl))
    | some b =>
      obtain ⟨b1, o1, p1⟩ := a
      obtain ⟨b2, o2, p2⟩ := b
      have e1 : p1 = none := (hs.2.2 _ rfl).1
      have e2 : p2 = none := (ht.2.2 _ rfl).1
      subst e1 e2
      exact zzCmp_some b1 o1 n1 c1 b2 o2 n2 c2 ls lt w hs.1 ht.1 hm1 hm2 (hs.2.2 _ rfl).2 (ht.2.2 _ rfl).2

end Go.Proofs.Qxb6615626a
