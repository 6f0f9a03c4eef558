import Derived.Test.Qxb6615911aWalksA
namespace Go.Proofs.Qxb6615911a
open Go.RowKit

theorem eq48 (c : UInt8) (h : ((c.toNat : Int) == 48) = true) : c = 48 := by
  rw [← UInt8.toNat_inj]; simp at h; simp; omega
theorem ne48 (c : UInt8) (h : ((c.toNat : Int) == 48) = false) : ¬ c = 48 := by
  intro hc; subst hc; simp at h

theorem at_list (s : ByteArray) (k : Nat) (h : k < s.size) : s.data.toList[k]? = some s[k] := by
  rw [List.getElem?_eq_getElem (by simpa using h)]; rfl

theorem at48 (s : ByteArray) (k : Nat) (h : k < s.size) (hx : ((s[k].toNat : Int) == 48) = true) : s.data.toList[k]? = some 48 := by
  rw [at_list s k h, eq48 _ hx]

theorem num_is (s : ByteArray) (b : Bool) (w : World) (hs : s.size ≤ maxLen) (hb : Pl.isNum s.data.toList = b) :
    Calls Try.prog 7 #[.string s] w fun e w' => e = .returned (.bool b) ∧ w' = w := by
  subst hb; exact zzIsNumber_any s w hs

theorem cat_data (a b : ByteArray) : (a ++ b).data.toList = a.data.toList ++ b.data.toList := by
  simp

theorem cat_size (s : ByteArray) : (({ data := #[48] } : ByteArray) ++ s).size = 1 + s.size := by
  rw [ByteArray.size_append]; rfl

set_option maxHeartbeats 1000000 in
theorem canon_D (s : ByteArray) (w : World) (h1 : s.size ≤ 65536) (hne : s.toList.isEmpty = false) (h0 : 0 < s.size) (hd : Pl.allDig s.data.toList = true) :
    Calls Try.prog 3 #[.string s] w fun e w' => e = .returned (.bool true) ∧ w' = w := by
  have HS : Hid (s.size ≤ maxLen) := hide (by unfold maxLen; omega)
  have HT : Hid ((({ data := #[48] } : ByteArray) ++ s).size ≤ maxLen) := hide (by rw [cat_size]; unfold maxLen; omega)
  go_enter Try.func3, Try.ntmps3
  go_wp2_with (first | (go_at_call 5; refine (bytes1_yes _ _ (by omega)).mono ?_; rintro e w' ⟨rfl, rfl⟩) | (go_at_call 6; refine (allDigits_any _ _ (unhide HS)).mono ?_; rintro e w' ⟨rfl, rfl⟩))
  go_loop [4] (fun i => ∃ k : Nat, k ≤ s.size ∧ i = .int .i64 k ∧ Hid (Pl.zeros s.data.toList k)) (fun i => s.size - (intOf i).toNat)
  case atStart => exact ⟨0, Nat.zero_le _, rfl, hide (fun i hi => absurd hi (Nat.not_lt_zero _))⟩
  case round =>
    obtain ⟨k, hk, rfl, HA⟩ := hrel
    by_cases hlt : k < s.size
    · go_wp2_with fail
      · go_round
        case rel => exact ⟨k + 1, by omega, by go_num, hide (Pl.zeros_succ _ _ (unhide HA) (at48 s k hlt (by assumption)))⟩
        case measure => simp [intOf]; omega
      · have hx : ((s[k].toNat : Int) == 48) = false := by assumption
        have hl := Pl.law_in s.data.toList k hd (by simpa using hlt) (unhide HA) (by exact ne48 _ hx)
        have h3 : Hid (Pl.isNum (({ data := #[48] } : ByteArray) ++ s).data.toList = false) := hide (by rw [cat_data]; show Pl.isNum (48 :: s.data.toList) = false; rw [Pl.isNum_zero, ← ByteArray.toList_eq]; exact hne)
        have hcs : Hid ((s.extract k s.size).size ≤ maxLen) := hide (by unfold maxLen; simp; omega)
        have hcd : (s.extract k s.size).data.toList = s.data.toList.drop k := by simp; apply List.take_of_length_le; simp
        rw [← hcd] at hl
        obtain ⟨l1, l2⟩ := hl
        have hb : ∃ b, (Pl.isNum s.data.toList = b) ∧ ((s.extract k s.size).toList == s.toList) = b := ⟨_, l1, by rw [ByteArray.toList_eq, ByteArray.toList_eq]⟩
        clear hcd hx l1
        generalize s.extract k s.size = c at *
        obtain ⟨b, hb1, hb2⟩ := hb
        have HB := hide hb1; have H2 := hide l2
        clear hb1 l2
        cases b
        all_goals
          go_wp2_with fail
          refine (num_is _ _ _ (unhide HS) (unhide HB)).mono ?_; rintro e w' ⟨rfl, rfl⟩
          go_wp2_with fail
          refine (num_is _ _ _ (unhide hcs) (unhide H2)).mono ?_; rintro e w' ⟨rfl, rfl⟩
          go_wp2_with fail
          refine (num_is _ _ _ (unhide HT) (unhide h3)).mono ?_; rintro e w' ⟨rfl, rfl⟩
          go_wp2_with fail
          go_ret
          exact ⟨rfl, rfl⟩
    · have hk2 : k = s.data.toList.length := by simp; omega
      have hl := Pl.law_all s.data.toList (by rw [← ByteArray.toList_eq]; exact hne) (by have := unhide HA; rw [hk2] at this; exact this)
      have h3 : Hid (Pl.isNum (({ data := #[48] } : ByteArray) ++ s).data.toList = false) := hide (by rw [cat_data]; show Pl.isNum (48 :: s.data.toList) = false; rw [Pl.isNum_zero, ← ByteArray.toList_eq]; exact hne)
      have hb : ∃ b, (Pl.isNum s.data.toList = b) ∧ (([48] == s.toList) = b) := ⟨_, hl, by rw [ByteArray.toList_eq]⟩
      have H2 : Hid (Pl.isNum ({ data := #[48] } : ByteArray).data.toList = true) := hide rfl
      have hcs : Hid (({ data := #[48] } : ByteArray).size ≤ maxLen) := hide (by unfold maxLen; decide)
      obtain ⟨b, hb1, hb2⟩ := hb
      have HB := hide hb1
      clear hb1 hl hk2
      cases b
      all_goals
        go_wp2_with fail
        refine (num_is _ _ _ (unhide HS) (unhide HB)).mono ?_; rintro e w' ⟨rfl, rfl⟩
        go_wp2_with fail
        refine (num_is _ _ _ (unhide hcs) (unhide H2)).mono ?_; rintro e w' ⟨rfl, rfl⟩
        go_wp2_with fail
        refine (num_is _ _ _ (unhide HT) (unhide h3)).mono ?_; rintro e w' ⟨rfl, rfl⟩
        go_wp2_with fail
        go_ret
        exact ⟨rfl, rfl⟩

set_option maxHeartbeats 1000000 in
theorem canon_N (s : ByteArray) (w : World) (h1 : s.size ≤ 65536) (hne : s.toList.isEmpty = false) (h0 : 0 < s.size) (hd : Pl.allDig s.data.toList = false) :
    Calls Try.prog 3 #[.string s] w fun e w' => e = .returned (.bool true) ∧ w' = w := by
  have HS : Hid (s.size ≤ maxLen) := hide (by unfold maxLen; omega)
  have HT : Hid ((({ data := #[48] } : ByteArray) ++ s).size ≤ maxLen) := hide (by rw [cat_size]; unfold maxLen; omega)
  have h3 : Hid (Pl.isNum (({ data := #[48] } : ByteArray) ++ s).data.toList = false) := hide (by rw [cat_data]; show Pl.isNum (48 :: s.data.toList) = false; rw [Pl.isNum_zero, ← ByteArray.toList_eq]; exact hne)
  have HB : Hid (Pl.isNum s.data.toList = false) := hide (Pl.isNum_false _ hd)
  go_enter Try.func3, Try.ntmps3
  go_wp2_with (first | (go_at_call 5; refine (bytes1_yes _ _ (by omega)).mono ?_; rintro e w' ⟨rfl, rfl⟩) | (go_at_call 6; refine (allDigits_any _ _ (unhide HS)).mono ?_; rintro e w' ⟨rfl, rfl⟩))
  go_loop [4] (fun i => ∃ k : Nat, k ≤ s.size ∧ i = .int .i64 k) (fun i => s.size - (intOf i).toNat)
  case atStart => exact ⟨0, Nat.zero_le _, rfl⟩
  case round =>
    obtain ⟨k, hk, rfl⟩ := hrel
    by_cases hlt : k < s.size
    · go_wp2_with fail
      · go_round
        case rel => exact ⟨k + 1, by omega, by go_num⟩
        case measure => simp [intOf]; omega
      · refine (num_is _ _ _ (unhide HS) (unhide HB)).mono ?_; rintro e w' ⟨rfl, rfl⟩
        go_wp2_with fail
        refine (num_is _ _ _ (unhide HT) (unhide h3)).mono ?_; rintro e w' ⟨rfl, rfl⟩
        go_wp2_with fail
        go_ret
        exact ⟨rfl, rfl⟩
    · go_wp2_with fail
      refine (num_is _ _ _ (unhide HS) (unhide HB)).mono ?_; rintro e w' ⟨rfl, rfl⟩
      go_wp2_with fail
      refine (num_is _ _ _ (unhide HT) (unhide h3)).mono ?_; rintro e w' ⟨rfl, rfl⟩
      go_wp2_with fail
      go_ret
      exact ⟨rfl, rfl⟩

set_option maxHeartbeats 1000000 in
theorem canon_E (s : ByteArray) (w : World) (he : s.toList.isEmpty = true) (h0 : s.size = 0) :
    Calls Try.prog 3 #[.string s] w fun e w' => e = .returned (.bool true) ∧ w' = w := by
  have hl : s.data.toList = [] := by rw [← ByteArray.toList_eq]; simpa using he
  have HS : Hid (s.size ≤ maxLen) := hide (by unfold maxLen; omega)
  have HT : Hid ((({ data := #[48] } : ByteArray) ++ s).size ≤ maxLen) := hide (by rw [cat_size]; unfold maxLen; omega)
  have h3 : Hid (Pl.isNum (({ data := #[48] } : ByteArray) ++ s).data.toList = true) := hide (by rw [cat_data, hl]; rfl)
  have HB : Hid (Pl.isNum s.data.toList = false) := hide (by rw [hl]; rfl)
  clear hl
  go_enter Try.func3, Try.ntmps3
  go_wp2_with (first | (go_at_call 5; refine (bytes1_yes _ _ (by omega)).mono ?_; rintro e w' ⟨rfl, rfl⟩))
  go_loop [4] (fun i => i = .int .i64 0) (fun i => 0)
  case atStart => rfl
  case round =>
    subst hrel
    go_wp2_with fail
    refine (num_is _ _ _ (unhide HS) (unhide HB)).mono ?_; rintro e w' ⟨rfl, rfl⟩
    go_wp2_with fail
    refine (num_is _ _ _ (unhide HT) (unhide h3)).mono ?_; rintro e w' ⟨rfl, rfl⟩
    go_wp2_with fail
    go_ret
    exact ⟨rfl, rfl⟩

theorem size_zero (s : ByteArray) (h : s.toList.isEmpty = true) : s.size = 0 := by
  rw [ByteArray.toList_eq] at h
  have h1 : s.data.toList.length = s.size := by simp
  have h2 : s.data.toList = [] := by simpa using h
  rw [h2] at h1; simpa using h1.symm

set_option maxHeartbeats 1000000 in
theorem canon_any (s : ByteArray) (w : World) :
    Calls Try.prog 3 #[.string s] w fun e w' => e = .returned (.bool true) ∧ w' = w := by
  by_cases h20 : s.size ≤ 1048576
  · by_cases h16 : s.size ≤ 65536
    · cases he : s.toList.isEmpty with
      | true => exact canon_E s w he (size_zero s he)
      | false =>
        cases hd : Pl.allDig s.data.toList with
        | true => exact canon_D s w h16 he (size_pos s he) hd
        | false => exact canon_N s w h16 he (size_pos s he) hd
    · go_enter Try.func3, Try.ntmps3
      go_wp2_with (first | (go_at_call 5; refine (bytes1_yes _ _ h20).mono ?_; rintro e w' ⟨rfl, rfl⟩))
      go_ret
      exact ⟨rfl, rfl⟩
  · go_enter Try.func3, Try.ntmps3
    go_wp2_with (first | (go_at_call 5; refine (bytes1_no _ _ h20).mono ?_; rintro e w' ⟨rfl, rfl⟩))
    go_ret
    exact ⟨rfl, rfl⟩
end Go.Proofs.Qxb6615911a
