/-
  The walks of the leaves.
-/
import Derived.Test.Qxb6615911aRows
import Derived.WalkKit
import Derived.WalkSpells
import Derived.WalkLawsBesides
import Derived.Test.Qxb6615911aPlain
namespace Go.Proofs.Qxb6615911a
open Go.RowKit

theorem hide {p : Prop} (h : p) : Hid p := h
theorem unhide {p : Prop} (h : Hid p) : p := h

theorem ret_bool {a b : Bool} (h : a = b) : Ending.returned (.bool a) = .returned (.bool b) := by rw [h]

theorem step_dig (s : ByteArray) (k : Nat) (h : k < s.size) (ha : Pl.allDig (s.data.toList.take k) = true) (hd : 48 ≤ (s[k].toNat : Int) ∧ (s[k].toNat : Int) ≤ 57) :
    Pl.allDig (s.data.toList.take (k + 1)) = true := by
  rw [Pl.take_snoc s k h, Pl.allDig_snoc, ha, (Pl.dig_iff _).2 hd]; rfl

theorem step_nodig (s : ByteArray) (k : Nat) (h : k < s.size) (hd : (s[k].toNat : Int) < 48 ∨ 57 < (s[k].toNat : Int)) :
    Pl.allDig s.data.toList = false := by
  refine Pl.allDig_false s k h ?_
  cases hx : Pl.dig s[k] with
  | false => rfl
  | true => rw [Pl.dig_iff] at hx; omega

set_option maxHeartbeats 400000 in
theorem allDigits_any (s : ByteArray) (w : World) (hs : s.size ≤ maxLen) :
    Calls Try.prog 6 #[.string s] w fun e w' => e = .returned (.bool (Pl.allDig s.data.toList)) ∧ w' = w := by
  unfold maxLen at hs
  go_enter Try.func6, Try.ntmps6
  go_wp2
  go_loop [3] (fun i => ∃ k : Nat, k ≤ s.size ∧ i = .int .i64 k ∧ Hid (Pl.allDig (s.data.toList.take k) = true)) (fun i => s.size - (intOf i).toNat)
  case atStart => exact ⟨0, Nat.zero_le _, rfl, hide rfl⟩
  case round =>
    obtain ⟨k, hk, rfl, HA⟩ := hrel
    by_cases hlt : k < s.size
    · go_wp2
      · go_ret
        exact ⟨ret_bool (step_nodig s k hlt (by assumption)).symm, rfl⟩
      · go_round
        case rel => exact ⟨k + 1, by omega, by go_num, hide (step_dig s k hlt (unhide HA) (by assumption))⟩
        case measure => simp [intOf]; omega
      · go_ret
        exact ⟨ret_bool (step_nodig s k hlt (Or.inl (by assumption))).symm, rfl⟩
    · go_wp2
      go_ret
      exact ⟨ret_bool (by have := unhide HA; rw [List.take_of_length_le (by simp; omega)] at this; exact this.symm), rfl⟩

theorem size_pos (s : ByteArray) (h : s.toList.isEmpty = false) : 0 < s.size := by
  rw [ByteArray.toList_eq] at h
  have : s.data.toList.length = s.size := by simp
  cases hl : s.data.toList with
  | nil => rw [hl] at h; cases h
  | cons a l => rw [hl] at this; simp at this; omega

set_option maxHeartbeats 400000 in
theorem isDigits_any (s : ByteArray) (w : World) (hs : s.size ≤ maxLen) :
    Calls Try.prog 10 #[.string s] w fun e w' => e = .returned (.bool (Pl.isDig s.data.toList)) ∧ w' = w := by
  unfold maxLen at hs
  cases he : s.toList.isEmpty with
  | true =>
    have HR : Hid (Pl.isDig s.data.toList = false) := hide (by unfold Pl.isDig; rw [← ByteArray.toList_eq, he]; rfl)
    go_enter Try.func10, Try.ntmps10
    go_wp2
    go_ret
    exact ⟨ret_bool (unhide HR).symm, rfl⟩
  | false =>
    have hl : 0 < s.size := size_pos s he
    have HR : Hid (Pl.isDig s.data.toList = Pl.allDig s.data.toList) := hide (by unfold Pl.isDig; rw [← ByteArray.toList_eq, he]; rfl)
    go_enter Try.func10, Try.ntmps10
    go_wp2
    go_loop [3] (fun i => ∃ k : Nat, k ≤ s.size ∧ i = .int .i64 k ∧ Hid (Pl.allDig (s.data.toList.take k) = true)) (fun i => s.size - (intOf i).toNat)
    case atStart => exact ⟨0, Nat.zero_le _, rfl, hide rfl⟩
    case round =>
      obtain ⟨k, hk, rfl, HA⟩ := hrel
      by_cases hlt : k < s.size
      · go_wp2
        · go_ret
          exact ⟨ret_bool (by rw [unhide HR]; exact (step_nodig s k hlt (by assumption)).symm), rfl⟩
        · go_round
          case rel => exact ⟨k + 1, by omega, by go_num, hide (step_dig s k hlt (unhide HA) (by assumption))⟩
          case measure => simp [intOf]; omega
        · go_ret
          exact ⟨ret_bool (by rw [unhide HR]; exact (step_nodig s k hlt (Or.inl (by assumption))).symm), rfl⟩
      · go_wp2
        go_ret
        exact ⟨ret_bool (by have := unhide HA; rw [List.take_of_length_le (by simp; omega)] at this; rw [unhide HR]; exact this.symm), rfl⟩

theorem bne_48 (c : UInt8) : ((c.toNat : Int) != 48) = !(c == 48) := by
  rw [Bool.eq_iff_iff]; simp [← UInt8.toNat_inj]; omega

set_option maxHeartbeats 400000 in
theorem isNumber_any (s : ByteArray) (w : World) (hs : s.size ≤ maxLen) :
    Calls Try.prog 9 #[.string s] w fun e w' => e = .returned (.bool (Pl.isNum s.data.toList)) ∧ w' = w := by
  have HS := hide hs
  clear hs
  cases hd : Pl.isDig s.data.toList with
  | false =>
    have HR : Hid (Pl.isNum s.data.toList = false) := hide (by unfold Pl.isNum; rw [hd]; rfl)
    go_enter Try.func9, Try.ntmps9
    go_wp2_with (go_at_call 10; refine (isDigits_any _ _ (unhide HS)).mono ?_; rintro e w' ⟨rfl, rfl⟩)
    go_ret
    exact ⟨ret_bool (unhide HR).symm, rfl⟩
  | true =>
    have hne : s.toList.isEmpty = false := by
      rw [ByteArray.toList_eq]; cases h : s.data.toList.isEmpty with
      | false => rfl
      | true => unfold Pl.isDig at hd; rw [h] at hd; cases hd
    have hl : 0 < s.size := size_pos s hne
    have hh : s.data.toList.head? = some s[0] := by
      have h1 : s.data.toList = s[0] :: s.data.toList.drop 1 := by
        have := List.drop_eq_getElem_cons (l := s.data.toList) (i := 0) (by simpa using hl)
        exact this
      rw [h1]; rfl
    cases h48 : (s.toList == [48]) with
    | true =>
      have HR : Hid (Pl.isNum s.data.toList = true) := hide (by unfold Pl.isNum; rw [hd, ← ByteArray.toList_eq, h48]; rfl)
      clear hh hne
      go_enter Try.func9, Try.ntmps9
      go_wp2_with (go_at_call 10; refine (isDigits_any _ _ (unhide HS)).mono ?_; rintro e w' ⟨rfl, rfl⟩)
      go_ret
      exact ⟨ret_bool (unhide HR).symm, rfl⟩
    | false =>
      have HR : Hid (Pl.isNum s.data.toList = !(s[0] == 48)) := hide (by unfold Pl.isNum; rw [hd, hh, ← ByteArray.toList_eq, h48]; simp)
      clear hh hne
      go_enter Try.func9, Try.ntmps9
      go_wp2_with (go_at_call 10; refine (isDigits_any _ _ (unhide HS)).mono ?_; rintro e w' ⟨rfl, rfl⟩)
      go_ret
      exact ⟨ret_bool (by rw [unhide HR, bne_48]), rfl⟩

set_option maxHeartbeats 400000 in
theorem zzIsNumber_any (s : ByteArray) (w : World) (hs : s.size ≤ maxLen) :
    Calls Try.prog 7 #[.string s] w fun e w' => e = .returned (.bool (Pl.isNum s.data.toList)) ∧ w' = w := by
  have HS := hide hs
  clear hs
  go_enter Try.func7, Try.ntmps7
  go_wp2_with (go_at_call 9; refine (isNumber_any _ _ (unhide HS)).mono ?_; rintro e w' ⟨rfl, rfl⟩)
  go_ret
  exact ⟨rfl, rfl⟩

set_option maxHeartbeats 400000 in
theorem bytes1_yes (s : ByteArray) (w : World) (h : s.size ≤ 1048576) :
    Calls Try.prog 5 #[.string s] w fun e w' => e = .returned (.bool true) ∧ w' = w := by
  go_enter Try.func5, Try.ntmps5
  go_wp2
  go_ret
  exact ⟨rfl, rfl⟩

set_option maxHeartbeats 400000 in
theorem bytes1_no (s : ByteArray) (w : World) (h : ¬ s.size ≤ 1048576) :
    Calls Try.prog 5 #[.string s] w fun e w' => e = .returned (.bool false) ∧ w' = w := by
  go_enter Try.func5, Try.ntmps5
  go_wp2
  go_ret
  exact ⟨rfl, rfl⟩

set_option maxHeartbeats 400000 in
theorem bytes2_yes (s t : ByteArray) (w : World) (h : s.size + t.size ≤ 1048576) :
    Calls Try.prog 8 #[.string s, .string t] w fun e w' => e = .returned (.bool true) ∧ w' = w := by
  go_enter Try.func8, Try.ntmps8
  go_wp2
  go_ret
  exact ⟨rfl, rfl⟩

set_option maxHeartbeats 400000 in
theorem bytes2_no (s t : ByteArray) (w : World) (hs : s.size ≤ maxLen) (ht : t.size ≤ maxLen) (h : ¬ s.size + t.size ≤ 1048576) :
    Calls Try.prog 8 #[.string s, .string t] w fun e w' => e = .returned (.bool false) ∧ w' = w := by
  unfold maxLen at hs ht
  by_cases h1 : s.size ≤ 1048576
  · by_cases h2 : t.size ≤ 1048576
    · go_enter Try.func8, Try.ntmps8
      go_wp2
      go_ret
      exact ⟨rfl, rfl⟩
    · go_enter Try.func8, Try.ntmps8
      go_wp2
      go_ret
      exact ⟨rfl, rfl⟩
  · go_enter Try.func8, Try.ntmps8
    go_wp2
    go_ret
    exact ⟨rfl, rfl⟩
end Go.Proofs.Qxb6615911a
