/-
  holds, seek (V by the namespace).
-/
import Derived.Test.Qxb6615626aReadB
namespace Go.Proofs.Qxb6615626a.BV
open Go.RowKit
set_option linter.unusedVariables false

set_option maxHeartbeats 1000000 in
theorem holds_nil (b o : Nat) (key : Sl) (w : World)
    (h0 : w.cell? ⟨b, o, none⟩ = some (.pointer none)) :
    Calls Try.prog 99 #[.pointer (some ⟨b, o, none⟩), key.v] w fun e w' => e = .returned (.bool false) ∧ w' = w := by
  go_enter Try.func99, Try.ntmps99
  go_wp2
  go_ret
  exact ⟨rfl, rfl⟩

/-- 'holds' at a leaf: is the key within the bounds? an empty bound is open -/
def within (k lo hi : List UInt8) : Bool := (lo.isEmpty || decide (0 ≤ Pl.cmp k lo)) && (hi.isEmpty || decide (Pl.cmp k hi < 0))

set_option maxHeartbeats 1000000 in
theorem holds_some (b o : Nat) (p : Addr) (key lo hi : Sl) (k l h : List UInt8) (w : World)
    (h0 : w.cell? ⟨b, o, none⟩ = some (.pointer (some p)))
    (h1 : w.cell? ⟨b, o + 1, none⟩ = some (.slice lo.a lo.n lo.c))
    (h2 : w.cell? ⟨b, o + 2, none⟩ = some (.slice hi.a hi.n hi.c))
    (bk : Byt w key k) (bl : Byt w lo l) (bh : Byt w hi h) (hl : lo.n ≤ maxLen) (hh : hi.n ≤ maxLen) :
    Calls Try.prog 99 #[.pointer (some ⟨b, o, none⟩), key.v] w fun e w' => e = .returned (.bool (within k l h)) ∧ w' = w := by
  unfold maxLen at hl hh
  have hln := bl.1; have hhn := bh.1
  have BK := hide bk; have BL := hide bl; have BH := hide bh
  clear bk bl bh
  cases l with
  | nil =>
    have z1 : lo.n = 0 := hln.symm
    have y1 : ((lo.n : Int) == 0) = true := by rw [z1]; rfl
    clear hln z1
    cases h with
    | nil =>
      have z2 : hi.n = 0 := hhn.symm
      have y2 : ((hi.n : Int) == 0) = true := by rw [z2]; rfl
      clear hhn z2
      go_enter Try.func99, Try.ntmps99
      go_wp2
      go_ret
      exact ⟨rfl, rfl⟩
    | cons c t =>
      have z2 : hi.n ≠ 0 := by rw [← hhn]; simp
      have y2 : ((hi.n : Int) == 0) = false := beq_eq_false_iff_ne.2 (by omega)
      clear hhn z2
      go_enter Try.func99, Try.ntmps99
      go_wp2_with (go_at_call 77; refine (compare_any key hi _ _ _ (by exact unhide BK) (by exact unhide BH)).mono ?_; rintro e w' ⟨rfl, rfl⟩)
      go_ret
      exact ⟨rfl, rfl⟩
  | cons d u =>
    have z1 : lo.n ≠ 0 := by rw [← hln]; simp
    have y1 : ((lo.n : Int) == 0) = false := beq_eq_false_iff_ne.2 (by omega)
    clear hln z1
    cases h with
    | nil =>
      have z2 : hi.n = 0 := hhn.symm
      have y2 : ((hi.n : Int) == 0) = true := by rw [z2]; rfl
      clear hhn z2
      by_cases c1 : 0 ≤ Pl.cmp k (d :: u)
      · have HR : Hid (within k (d :: u) [] = true) := hide (by unfold within; simp [c1])
        go_enter Try.func99, Try.ntmps99
        go_wp2_with (go_at_call 77; refine (compare_any key lo _ _ _ (by exact unhide BK) (by exact unhide BL)).mono ?_; rintro e w' ⟨rfl, rfl⟩)
        go_ret
        exact ⟨ret_bool (unhide HR).symm, rfl⟩
      · have HR : Hid (within k (d :: u) [] = false) := hide (by unfold within; simp [c1])
        go_enter Try.func99, Try.ntmps99
        go_wp2_with (go_at_call 77; refine (compare_any key lo _ _ _ (by exact unhide BK) (by exact unhide BL)).mono ?_; rintro e w' ⟨rfl, rfl⟩)
        go_ret
        exact ⟨ret_bool (unhide HR).symm, rfl⟩
    | cons c t =>
      have z2 : hi.n ≠ 0 := by rw [← hhn]; simp
      have y2 : ((hi.n : Int) == 0) = false := beq_eq_false_iff_ne.2 (by omega)
      clear hhn z2
      by_cases c1 : 0 ≤ Pl.cmp k (d :: u)
      · have HR : Hid (within k (d :: u) (c :: t) = decide (Pl.cmp k (c :: t) < 0)) := hide (by unfold within; simp [c1])
        go_enter Try.func99, Try.ntmps99
        go_wp2_with fail
        refine (compare_any key lo _ _ _ (by exact unhide BK) (by exact unhide BL)).mono ?_; rintro e w' ⟨rfl, rfl⟩
        go_wp2_with fail
        refine (compare_any key hi _ _ _ (by exact unhide BK) (by exact unhide BH)).mono ?_; rintro e w' ⟨rfl, rfl⟩
        go_wp2_with fail
        go_ret
        exact ⟨ret_bool (unhide HR).symm, rfl⟩
      · have HR : Hid (within k (d :: u) (c :: t) = false) := hide (by unfold within; simp [c1])
        go_enter Try.func99, Try.ntmps99
        go_wp2_with (go_at_call 77; refine (compare_any key lo _ _ _ (by exact unhide BK) (by exact unhide BL)).mono ?_; rintro e w' ⟨rfl, rfl⟩)
        go_ret
        exact ⟨ret_bool (unhide HR).symm, rfl⟩

set_option maxHeartbeats 2000000 in
theorem seek_any (nb kb kc : Nat) (ks : List Sl) (f : Sl → List UInt8) (key : Sl) (p : Nat) (w : World) (hlen : ks.length ≤ 100000) (hp : p ≤ 100000)
    (hn : w.cell? ⟨nb, 2, none⟩ = some (.slice (some ⟨kb, 0, none⟩) ks.length kc))
    (hk : ∀ i (h : i < ks.length), w.cell? ⟨kb, i, none⟩ = some ks[i].v)
    (hf : ∀ s, s ∈ ks → Byt w s (f s)) (hkey : Byt w key (f key)) (ha : Asc f ks) :
    Calls Try.prog 100 #[.pointer (some ⟨nb, 0, none⟩), key.v, .int .i64 p] w fun e w' => ∃ i : Nat, e = .returned (.tuple #[.int .i64 i, .bool (ks[i]?.any fun s => f s == f key)]) ∧ LB f ks (f key) i ∧ ∃ n, w' = w.drewN n := by
  have HFI := hide (find_any nb kb kc ks f key w hlen hn hk hf hkey ha)
  have HK := hide hk; have HF := hide hf; have HY := hide hkey; have HA := hide ha
  clear hk hf hkey ha
  have i0 : ∀ x y w, (Instr.index 163 (.agg #[x, y]) (.int .i64 0)).run Try.prog w = .ok x w := fun _ _ _ => by kernel_rfl
  have i1 : ∀ x y w, (Instr.index 163 (.agg #[x, y]) (.int .i64 1)).run Try.prog w = .ok y w := fun _ _ _ => by kernel_rfl
  go_enter Try.func100, Try.ntmps100
  go_wp2_with fail
  go_loop [15] (fun r => r = .int .i64 0 ∨ r = .int .i64 1 ∨ r = .int .i64 2) (fun r => (2 - intOf r).toNat)
  case atStart => exact .inl rfl
  case round =>
    rcases hrel with rfl | rfl | rfl
    · by_cases c0 : ks.length < p + 1
      · go_wp2_with fail
        go_round
        case rel => exact .inr (.inl rfl)
        case measure => simp [intOf]
      · obtain ⟨s, hs⟩ : ∃ s, s = ks[p]'(by omega) := ⟨_, rfl⟩
        have hc : w.cell? ⟨kb, p, none⟩ = some (.slice s.a s.n s.c) := by rw [hs]; exact unhide HK _ (by omega)
        have hbs : Hid (Byt w s (f s)) := hide (by rw [hs]; exact unhide HF _ (List.getElem_mem _))
        have HS := hide hs
        clear hs
        by_cases c1 : 0 ≤ Pl.cmp (f s) (f key)
        · go_wp2_with (go_at_call 77; refine (compare_any s key (f s) (f key) _ (by exact unhide hbs) (by exact unhide HY)).mono ?_; rintro e w' ⟨rfl, rfl⟩)
          go_round
          case rel => exact .inr (.inl rfl)
          case measure => simp [intOf]
        · by_cases c2 : p + 1 = ks.length
          · have y2 : ((p : Int) + 1 == (ks.length : Int)) = true := beq_iff_eq.2 (by omega)
            have C2 := hide c2
            clear c2
            go_wp2_with (go_at_call 77; refine (compare_any s key (f s) (f key) _ (by exact unhide hbs) (by exact unhide HY)).mono ?_; rintro e w' ⟨rfl, rfl⟩)
            go_ret2
            have e2 := unhide C2
            refine ⟨p + 1, ?_, LB.of (unhide HA) (by omega) (fun _ => ?_) (fun h => by omega), 0, rfl⟩
            · rw [List.getElem?_eq_none (by omega)]; rfl
            · have := unhide HS; simp only [Nat.add_sub_cancel]; rw [← this]; unfold Pl.lt; omega
          · have y2 : ((p : Int) + 1 == (ks.length : Int)) = false := beq_eq_false_iff_ne.2 (by omega)
            obtain ⟨t, ht⟩ : ∃ t, t = ks[p + 1]'(by omega) := ⟨_, rfl⟩
            have hct : w.cell? ⟨kb, p + 1, none⟩ = some (.slice t.a t.n t.c) := by rw [ht]; exact unhide HK _ (by omega)
            have hbt : Hid (Byt w t (f t)) := hide (by rw [ht]; exact unhide HF _ (List.getElem_mem _))
            have HT := hide ht
            clear ht
            by_cases c3 : 0 ≤ Pl.cmp (f t) (f key)
            · go_wp2_with fail
              refine (compare_any s key (f s) (f key) _ (by exact unhide hbs) (by exact unhide HY)).mono ?_; rintro e w' ⟨rfl, rfl⟩
              go_wp2_with fail
              refine (compare_any t key (f t) (f key) _ (by exact unhide hbt) (by exact unhide HY)).mono ?_; rintro e w' ⟨rfl, rfl⟩
              go_wp2_with fail
              go_ret2
              refine ⟨p + 1, ?_, LB.of (unhide HA) (by omega) (fun _ => ?_) (fun h => ?_), 0, rfl⟩
              · rw [List.getElem?_eq_getElem (by omega : p + 1 < ks.length), ← unhide HT]
                show Ending.returned (.tuple #[.int .i64 ((p : Int) + 1), .bool (Pl.cmp (f t) (f key) == 0)]) = _
                rw [cmp_beq]; rfl
              · have := unhide HS; simp only [Nat.add_sub_cancel]; rw [← this]; unfold Pl.lt; omega
              · have := unhide HT; rw [← this]; unfold Pl.lt; omega
            · go_wp2_with fail
              refine (compare_any s key (f s) (f key) _ (by exact unhide hbs) (by exact unhide HY)).mono ?_; rintro e w' ⟨rfl, rfl⟩
              go_wp2_with fail
              refine (compare_any t key (f t) (f key) _ (by exact unhide hbt) (by exact unhide HY)).mono ?_; rintro e w' ⟨rfl, rfl⟩
              go_wp2_with fail
              go_round
              case rel => exact .inr (.inl rfl)
              case measure => simp [intOf]
    · by_cases c0 : ks.length < p
      · go_wp2_with fail
        go_round
        case rel => exact .inr (.inr rfl)
        case measure => simp [intOf]
      · by_cases cz : 0 < p
        · obtain ⟨s, hs⟩ : ∃ s, s = ks[p - 1]'(by omega) := ⟨_, rfl⟩
          have hc : w.cell? ⟨kb, p - 1, none⟩ = some (.slice s.a s.n s.c) := by rw [hs]; exact unhide HK _ (by omega)
          have hbs : Hid (Byt w s (f s)) := hide (by rw [hs]; exact unhide HF _ (List.getElem_mem _))
          have HS := hide hs
          clear hs
          have hi1 : ((p : Int) - 1).toNat = p - 1 := by omega
          by_cases c1 : 0 ≤ Pl.cmp (f s) (f key)
          · go_wp2_with (go_at_call 77; refine (compare_any s key (f s) (f key) _ (by exact unhide hbs) (by exact unhide HY)).mono ?_; rintro e w' ⟨rfl, rfl⟩)
            go_round
            case rel => exact .inr (.inr rfl)
            case measure => simp [intOf]
          · by_cases c2 : p = ks.length
            · have y2 : ((p : Int) == (ks.length : Int)) = true := beq_iff_eq.2 (by omega)
              have C2 := hide c2
              clear c2
              go_wp2_with (go_at_call 77; refine (compare_any s key (f s) (f key) _ (by exact unhide hbs) (by exact unhide HY)).mono ?_; rintro e w' ⟨rfl, rfl⟩)
              go_ret2
              have e2 := unhide C2
              refine ⟨p, ?_, LB.of (unhide HA) (by omega) (fun _ => ?_) (fun h => by omega), 0, rfl⟩
              · rw [List.getElem?_eq_none (by omega)]; rfl
              · have := unhide HS; rw [← this]; unfold Pl.lt; omega
            · have y2 : ((p : Int) == (ks.length : Int)) = false := beq_eq_false_iff_ne.2 (by omega)
              obtain ⟨t, ht⟩ : ∃ t, t = ks[p]'(by omega) := ⟨_, rfl⟩
              have hct : w.cell? ⟨kb, p, none⟩ = some (.slice t.a t.n t.c) := by rw [ht]; exact unhide HK _ (by omega)
              have hbt : Hid (Byt w t (f t)) := hide (by rw [ht]; exact unhide HF _ (List.getElem_mem _))
              have HT := hide ht
              clear ht
              by_cases c3 : 0 ≤ Pl.cmp (f t) (f key)
              · go_wp2_with fail
                refine (compare_any s key (f s) (f key) _ (by exact unhide hbs) (by exact unhide HY)).mono ?_; rintro e w' ⟨rfl, rfl⟩
                go_wp2_with fail
                refine (compare_any t key (f t) (f key) _ (by exact unhide hbt) (by exact unhide HY)).mono ?_; rintro e w' ⟨rfl, rfl⟩
                go_wp2_with fail
                go_ret2
                refine ⟨p, ?_, LB.of (unhide HA) (by omega) (fun _ => ?_) (fun h => ?_), 0, rfl⟩
                · rw [List.getElem?_eq_getElem (by omega : p < ks.length), ← unhide HT]
                  show Ending.returned (.tuple #[.int .i64 (p : Int), .bool (Pl.cmp (f t) (f key) == 0)]) = _
                  rw [cmp_beq]; rfl
                · have := unhide HS; rw [← this]; unfold Pl.lt; omega
                · have := unhide HT; rw [← this]; unfold Pl.lt; omega
              · go_wp2_with fail
                refine (compare_any s key (f s) (f key) _ (by exact unhide hbs) (by exact unhide HY)).mono ?_; rintro e w' ⟨rfl, rfl⟩
                go_wp2_with fail
                refine (compare_any t key (f t) (f key) _ (by exact unhide hbt) (by exact unhide HY)).mono ?_; rintro e w' ⟨rfl, rfl⟩
                go_wp2_with fail
                go_round
                case rel => exact .inr (.inr rfl)
                case measure => simp [intOf]
        · by_cases c2 : p = ks.length
          · have y2 : ((p : Int) == (ks.length : Int)) = true := beq_iff_eq.2 (by omega)
            have C2 := hide c2
            clear c2
            go_wp2_with fail
            go_ret2
            have e2 := unhide C2
            refine ⟨p, ?_, LB.of (unhide HA) (by omega) (fun h => by omega) (fun h => by omega), 0, rfl⟩
            rw [List.getElem?_eq_none (by omega)]; rfl
          · have y2 : ((p : Int) == (ks.length : Int)) = false := beq_eq_false_iff_ne.2 (by omega)
            obtain ⟨t, ht⟩ : ∃ t, t = ks[p]'(by omega) := ⟨_, rfl⟩
            have hct : w.cell? ⟨kb, p, none⟩ = some (.slice t.a t.n t.c) := by rw [ht]; exact unhide HK _ (by omega)
            have hbt : Hid (Byt w t (f t)) := hide (by rw [ht]; exact unhide HF _ (List.getElem_mem _))
            have HT := hide ht
            clear ht
            by_cases c3 : 0 ≤ Pl.cmp (f t) (f key)
            · go_wp2_with (go_at_call 77; refine (compare_any t key (f t) (f key) _ (by exact unhide hbt) (by exact unhide HY)).mono ?_; rintro e w' ⟨rfl, rfl⟩)
              go_ret2
              refine ⟨p, ?_, LB.of (unhide HA) (by omega) (fun h => by omega) (fun h => ?_), 0, rfl⟩
              · rw [List.getElem?_eq_getElem (by omega : p < ks.length), ← unhide HT]
                show Ending.returned (.tuple #[.int .i64 (p : Int), .bool (Pl.cmp (f t) (f key) == 0)]) = _
                rw [cmp_beq]; rfl
              · have := unhide HT; rw [← this]; unfold Pl.lt; omega
            · go_wp2_with (go_at_call 77; refine (compare_any t key (f t) (f key) _ (by exact unhide hbt) (by exact unhide HY)).mono ?_; rintro e w' ⟨rfl, rfl⟩)
              go_round
              case rel => exact .inr (.inr rfl)
              case measure => simp [intOf]
    · go_wp2_with fail
      refine (unhide HFI).mono ?_
      rintro e w' ⟨i, rfl, hi, n, rfl⟩
      go_wp2_with fail
      go_ret2
      exact ⟨i, rfl, hi, n, rfl⟩
end Go.Proofs.Qxb6615626a.BV
