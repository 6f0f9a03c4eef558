/-
  What only reads: leaf, size, most, find, route, bounds, own, ownKeys, holds, seek (V by the namespace).
-/
import Derived.Test.Qxb6615626aSearch
import Derived.Deep.QuietTactic
import Derived.BigQuiet
namespace Go.Proofs.Qxb6615626a.BV
open Go.RowKit

set_option maxHeartbeats 400000 in
theorem leaf_any (nb : Nat) (w : World) (a : Option Addr) (n c : Nat) (h : w.cell? ⟨nb, 4, none⟩ = some (.slice a n c)) :
    Calls Try.prog 81 #[.pointer (some ⟨nb, 0, none⟩)] w fun e w' => e = .returned (.bool a.isNone) ∧ w' = w := by
  have hnil := fun w => Lib.run_eql_slice_nil (P := Try.prog) w 117 78 a n c 0 0 Try.underlying117
  go_enter Try.func81, Try.ntmps81
  go_wp2
  go_ret
  exact ⟨rfl, rfl⟩

theorem leaf_yes (nb : Nat) (w : World) (h : w.cell? ⟨nb, 4, none⟩ = some (.slice none 0 0)) :
    Calls Try.prog 81 #[.pointer (some ⟨nb, 0, none⟩)] w fun e w' => e = .returned (.bool true) ∧ w' = w := leaf_any nb w none 0 0 h

theorem leaf_no (nb : Nat) (w : World) (a : Addr) (n c : Nat) (h : w.cell? ⟨nb, 4, none⟩ = some (.slice (some a) n c)) :
    Calls Try.prog 81 #[.pointer (some ⟨nb, 0, none⟩)] w fun e w' => e = .returned (.bool false) ∧ w' = w := leaf_any nb w (some a) n c h

set_option maxHeartbeats 400000 in
theorem size_leaf (nb : Nat) (w : World) (a : Option Addr) (n c : Nat) (hk : w.cell? ⟨nb, 2, none⟩ = some (.slice a n c)) (h : w.cell? ⟨nb, 4, none⟩ = some (.slice none 0 0)) :
    Calls Try.prog 72 #[.pointer (some ⟨nb, 0, none⟩)] w fun e w' => e = .returned (.int .i64 n) ∧ w' = w := by
  go_enter Try.func72, Try.ntmps72
  go_wp2_with (go_at_call 81; refine (leaf_yes nb _ h).mono ?_; rintro e w' ⟨rfl, rfl⟩)
  go_ret
  exact ⟨rfl, rfl⟩

set_option maxHeartbeats 400000 in
theorem size_inner (nb : Nat) (w : World) (a : Addr) (n c : Nat) (h : w.cell? ⟨nb, 4, none⟩ = some (.slice (some a) n c)) :
    Calls Try.prog 72 #[.pointer (some ⟨nb, 0, none⟩)] w fun e w' => e = .returned (.int .i64 n) ∧ w' = w := by
  go_enter Try.func72, Try.ntmps72
  go_wp2_with (go_at_call 81; refine (leaf_no nb _ a n c h).mono ?_; rintro e w' ⟨rfl, rfl⟩)
  go_ret
  exact ⟨rfl, rfl⟩

set_option maxHeartbeats 400000 in
theorem most_leaf (nb : Nat) (w : World) (h : w.cell? ⟨nb, 4, none⟩ = some (.slice none 0 0)) :
    Calls Try.prog 73 #[.pointer (some ⟨nb, 0, none⟩)] w fun e w' => e = .returned (.int .i64 256) ∧ w' = w := by
  go_enter Try.func73, Try.ntmps73
  go_wp2_with (go_at_call 81; refine (leaf_yes nb _ h).mono ?_; rintro e w' ⟨rfl, rfl⟩)
  go_ret
  exact ⟨rfl, rfl⟩

set_option maxHeartbeats 400000 in
theorem most_inner (nb : Nat) (w : World) (a : Addr) (n c : Nat) (h : w.cell? ⟨nb, 4, none⟩ = some (.slice (some a) n c)) :
    Calls Try.prog 73 #[.pointer (some ⟨nb, 0, none⟩)] w fun e w' => e = .returned (.int .i64 64) ∧ w' = w := by
  go_enter Try.func73, Try.ntmps73
  go_wp2_with (go_at_call 81; refine (leaf_no nb _ a n c h).mono ?_; rintro e w' ⟨rfl, rfl⟩)
  go_ret
  exact ⟨rfl, rfl⟩

set_option maxHeartbeats 400000 in
theorem ownKeys_any (nb : Nat) (w : World) (h : w.cell? ⟨nb, 1, none⟩ = some (.bool false)) :
    Calls Try.prog 107 #[.pointer (some ⟨nb, 0, none⟩)] w fun e w' => e = .returned (.tuple #[]) ∧ w' = w := by
  go_enter Try.func107, Try.ntmps107
  go_wp2
  go_end0
  exact ⟨rfl, rfl⟩

set_option maxHeartbeats 400000 in
theorem own_any (eb nb : Nat) (w : World) (h : w.cell? ⟨nb, 0, none⟩ = some (.pointer none)) (he : w.cell? ⟨eb, 1, none⟩ = some (.pointer none)) :
    Calls Try.prog 70 #[.pointer (some ⟨eb, 0, none⟩), .pointer (some ⟨nb, 0, none⟩)] w fun e w' => e = .returned (.pointer (some ⟨nb, 0, none⟩)) ∧ ∃ n, w' = w.drewN n := by
  go_enter Try.func70, Try.ntmps70
  go_wp2
  go_quiet (fail)
  go_wp2
  go_ret
  exact ⟨rfl, nq, rfl⟩

set_option maxHeartbeats 1000000 in
theorem find_any (nb kb kc : Nat) (ks : List Sl) (f : Sl → List UInt8) (key : Sl) (w : World) (hlen : ks.length ≤ 100000)
    (hn : w.cell? ⟨nb, 2, none⟩ = some (.slice (some ⟨kb, 0, none⟩) ks.length kc))
    (hk : ∀ i (h : i < ks.length), w.cell? ⟨kb, i, none⟩ = some ks[i].v)
    (hf : ∀ s, s ∈ ks → Byt w s (f s)) (hkey : Byt w key (f key)) (ha : Asc f ks) :
    Calls Try.prog 104 #[.pointer (some ⟨nb, 0, none⟩), key.v] w fun e w' => ∃ i : Nat, e = .returned (.tuple #[.int .i64 i, .bool (ks[i]?.any fun s => f s == f key)]) ∧ LB f ks (f key) i ∧ ∃ n, w' = w.drewN n := by
  have HK := hide hk; have HF := hide hf; have HY := hide hkey; have HA := hide ha
  clear hk hf hkey ha
  go_enter Try.func104, Try.ntmps104
  go_wp2_with fail
  go_quiet (fail)
  go_wp2_with fail
  go_loop [6, 7] (fun lo hi => ∃ l h : Nat, lo = .int .i64 l ∧ hi = .int .i64 h ∧ Hid (Mid f ks (f key) l h)) (fun lo hi => (intOf hi - intOf lo).toNat)
  case atStart => exact ⟨0, ks.length, rfl, rfl, hide ⟨Nat.zero_le _, Nat.le_refl _, fun j _ hj => absurd hj (Nat.not_lt_zero _), fun j hj hj2 => absurd hj (by omega)⟩⟩
  case round =>
    obtain ⟨l, h, rfl, rfl, M⟩ := hrel
    have hle := (unhide M).le
    have hhi := (unhide M).hi
    by_cases hlt : l < h
    · have hm1 : l ≤ (l + h) / 2 := by omega
      have hm2 : (l + h) / 2 < h := by omega
      have hm3 : (l + h) / 2 < ks.length := by omega
      obtain ⟨s, hs⟩ : ∃ s, s = ks[(l + h) / 2] := ⟨_, rfl⟩
      have hc : w.cell? ⟨kb, (l + h) / 2, none⟩ = some (.slice s.a s.n s.c) := by rw [hs]; exact unhide HK _ hm3
      have HS := hide hs
      have hbs : Hid (Byt w s (f s)) := hide (by rw [hs]; exact unhide HF _ (List.getElem_mem _))
      clear hs
      go_wp2_with (go_at_call 77; refine (compare_any s key (f s) (f key) _ (by exact unhide hbs) (by exact unhide HY)).mono ?_; rintro e w' ⟨rfl, rfl⟩)
      · go_round
        case rel => exact ⟨(l + h) / 2 + 1, h, by go_num, rfl, hide ((unhide M).right (unhide HA) hm1 hm2 (by have := unhide HS; rw [← this]; assumption))⟩
        case measure => simp [intOf]; omega
      · go_round
        case rel => exact ⟨l, (l + h) / 2, rfl, rfl, hide ((unhide M).left (unhide HA) hm1 hm2 (by have := unhide HS; rw [← this]; rw [← Pl.cmp_nonneg_iff]; assumption))⟩
        case measure => simp [intOf]; omega
    · have hlh : l = h := by omega
      subst hlh
      by_cases hl2 : l < ks.length
      · obtain ⟨s, hs⟩ : ∃ s, s = ks[l] := ⟨_, rfl⟩
        have hc : w.cell? ⟨kb, l, none⟩ = some (.slice s.a s.n s.c) := by rw [hs]; exact unhide HK _ hl2
        have HS := hide hs
        have hbs : Hid (Byt w s (f s)) := hide (by rw [hs]; exact unhide HF _ (List.getElem_mem _))
        clear hs
        go_wp2_with (go_at_call 117; refine (equal_any s key (f s) (f key) _ (by exact unhide hbs) (by exact unhide HY)).mono ?_; rintro e w' ⟨rfl, rfl⟩)
        go_ret2
        refine ⟨l, ?_, ⟨hhi, (unhide M).below, (unhide M).above⟩, nq, rfl⟩
        have h2 := unhide HS
        rw [List.getElem?_eq_getElem hl2, ← h2]
        rfl
      · go_wp2_with fail
        go_ret2
        refine ⟨l, ?_, ⟨hhi, (unhide M).below, (unhide M).above⟩, nq, rfl⟩
        rw [List.getElem?_eq_none (by omega)]
        rfl

set_option maxHeartbeats 1000000 in
theorem route_any (nb kb kc : Nat) (ks : List Sl) (f : Sl → List UInt8) (key : Sl) (w : World) (hlen : ks.length ≤ 100000)
    (hn : w.cell? ⟨nb, 2, none⟩ = some (.slice (some ⟨kb, 0, none⟩) ks.length kc))
    (hk : ∀ i (h : i < ks.length), w.cell? ⟨kb, i, none⟩ = some ks[i].v)
    (hf : ∀ s, s ∈ ks → Byt w s (f s)) (hkey : Byt w key (f key)) (ha : Asc f ks) :
    Calls Try.prog 105 #[.pointer (some ⟨nb, 0, none⟩), key.v] w fun e w' => ∃ i : Nat, e = .returned (.int .i64 i) ∧ UB f ks (f key) i ∧ ∃ n, w' = w.drewN n := by
  have HK := hide hk; have HF := hide hf; have HY := hide hkey; have HA := hide ha
  clear hk hf hkey ha
  go_enter Try.func105, Try.ntmps105
  go_wp2_with fail
  go_quiet (fail)
  go_wp2_with fail
  go_loop [5, 6] (fun lo hi => ∃ l h : Nat, lo = .int .i64 l ∧ hi = .int .i64 h ∧ Hid (MidU f ks (f key) l h)) (fun lo hi => (intOf hi - intOf lo).toNat)
  case atStart => exact ⟨0, ks.length, rfl, rfl, hide ⟨Nat.zero_le _, Nat.le_refl _, fun j _ hj => absurd hj (Nat.not_lt_zero _), fun j hj hj2 => absurd hj (by omega)⟩⟩
  case round =>
    obtain ⟨l, h, rfl, rfl, M⟩ := hrel
    have hle := (unhide M).le
    have hhi := (unhide M).hi
    by_cases hlt : l < h
    · have hm1 : l ≤ (l + h) / 2 := by omega
      have hm2 : (l + h) / 2 < h := by omega
      have hm3 : (l + h) / 2 < ks.length := by omega
      obtain ⟨s, hs⟩ : ∃ s, s = ks[(l + h) / 2] := ⟨_, rfl⟩
      have hc : w.cell? ⟨kb, (l + h) / 2, none⟩ = some (.slice s.a s.n s.c) := by rw [hs]; exact unhide HK _ hm3
      have HS := hide hs
      have hbs : Hid (Byt w s (f s)) := hide (by rw [hs]; exact unhide HF _ (List.getElem_mem _))
      clear hs
      go_wp2_with (go_at_call 77; refine (compare_any s key (f s) (f key) _ (by exact unhide hbs) (by exact unhide HY)).mono ?_; rintro e w' ⟨rfl, rfl⟩)
      · go_round
        case rel => exact ⟨(l + h) / 2 + 1, h, by go_num, rfl, hide ((unhide M).right (unhide HA) hm1 hm2 (by have := unhide HS; rw [← this, ← Pl.cmp_nonpos_iff]; assumption))⟩
        case measure => simp [intOf]; omega
      · go_round
        case rel => exact ⟨l, (l + h) / 2, rfl, rfl, hide ((unhide M).left (unhide HA) hm1 hm2 (by have := unhide HS; rw [← this, ← Pl.cmp_pos_iff]; assumption))⟩
        case measure => simp [intOf]; omega
    · have hlh : l = h := by omega
      subst hlh
      go_wp2_with fail
      go_ret
      exact ⟨l, rfl, ⟨hhi, (unhide M).below, (unhide M).above⟩, nq, rfl⟩

set_option maxHeartbeats 1000000 in
/-- bounds of child i: the separators beside it, or what was handed in -/
theorem bounds_any (nb kb kc : Nat) (ks : List Sl) (i : Nat) (lo hi : Sl) (w : World) (hlen : ks.length ≤ 100000) (hi' : i ≤ ks.length)
    (hn : w.cell? ⟨nb, 2, none⟩ = some (.slice (some ⟨kb, 0, none⟩) ks.length kc))
    (hk : ∀ i (h : i < ks.length), w.cell? ⟨kb, i, none⟩ = some ks[i].v) :
    Calls Try.prog 106 #[.pointer (some ⟨nb, 0, none⟩), .int .i64 i, lo.v, hi.v] w fun e w' => e = .returned (.tuple #[(loOf ks i lo).v, (hiOf ks i hi).v]) ∧ w' = w := by
  have HK := hide hk
  clear hk
  by_cases h0 : 0 < i
  · obtain ⟨s, hs⟩ : ∃ s, s = ks[i - 1]'(by omega) := ⟨_, rfl⟩
    have hc : w.cell? ⟨kb, i - 1, none⟩ = some (.slice s.a s.n s.c) := by rw [hs]; exact unhide HK _ (by omega)
    have e1 : Hid (loOf ks i lo = s) := hide (by unfold loOf; rw [if_pos h0, List.getElem?_eq_getElem (by omega : i - 1 < ks.length), hs]; rfl)
    clear hs
    have hi1 : ((i : Int) - 1).toNat = i - 1 := by omega
    by_cases h1 : i < ks.length
    · obtain ⟨t, ht⟩ : ∃ t, t = ks[i] := ⟨_, rfl⟩
      have hc2 : w.cell? ⟨kb, i, none⟩ = some (.slice t.a t.n t.c) := by rw [ht]; exact unhide HK _ (by omega)
      have e2 : Hid (hiOf ks i hi = t) := hide (by unfold hiOf; rw [List.getElem?_eq_getElem h1, ht]; rfl)
      clear ht
      go_enter Try.func106, Try.ntmps106
      go_wp2
      go_ret2
      exact ⟨by rw [unhide e1, unhide e2]; rfl, rfl⟩
    · have e2 : Hid (hiOf ks i hi = hi) := hide (by unfold hiOf; rw [List.getElem?_eq_none (by omega)]; rfl)
      go_enter Try.func106, Try.ntmps106
      go_wp2
      go_ret2
      exact ⟨by rw [unhide e1, unhide e2]; rfl, rfl⟩
  · have e1 : Hid (loOf ks i lo = lo) := hide (by unfold loOf; rw [if_neg h0])
    by_cases h1 : i < ks.length
    · obtain ⟨t, ht⟩ : ∃ t, t = ks[i] := ⟨_, rfl⟩
      have hc2 : w.cell? ⟨kb, i, none⟩ = some (.slice t.a t.n t.c) := by rw [ht]; exact unhide HK _ (by omega)
      have e2 : Hid (hiOf ks i hi = t) := hide (by unfold hiOf; rw [List.getElem?_eq_getElem h1, ht]; rfl)
      clear ht
      go_enter Try.func106, Try.ntmps106
      go_wp2
      go_ret2
      exact ⟨by rw [unhide e1, unhide e2]; rfl, rfl⟩
    · have e2 : Hid (hiOf ks i hi = hi) := hide (by unfold hiOf; rw [List.getElem?_eq_none (by omega)]; rfl)
      go_enter Try.func106, Try.ntmps106
      go_wp2
      go_ret2
      exact ⟨by rw [unhide e1, unhide e2]; rfl, rfl⟩
end Go.Proofs.Qxb6615626a.BV
