import Derived.Test.Qxb6615911aCanon
namespace Go.Proofs.Qxb6615911a
open Go.RowKit

theorem cat_size1 (s : ByteArray) : (({ data := #[49] } : ByteArray) ++ s).size = 1 + s.size := by
  rw [ByteArray.size_append]; rfl
theorem cat_one (b : ByteArray) : (({ data := #[49] } : ByteArray) ++ b).data.toList = 49 :: b.data.toList := by
  rw [cat_data]; rfl

theorem dig_is (s : ByteArray) (b : Bool) (w : World) (hs : s.size ≤ maxLen) (hb : Pl.allDig s.data.toList = b) :
    Calls Try.prog 6 #[.string s] w fun e w' => e = .returned (.bool b) ∧ w' = w := by
  subst hb; exact allDigits_any s w hs

set_option maxHeartbeats 1000000 in
/-- the road behind the guards, all that it tests handed in -/
theorem join_core (a b : ByteArray) (w : World) (ha : a.size ≤ 65536) (hb : b.size ≤ 65536) (ea eb n0 got na nb tb : Bool)
    (hea : a.toList.isEmpty = ea) (heb : b.toList.isEmpty = eb) (hn0 : (a.toList == [48]) = n0)
    (Hgot : Hid (Pl.isNum (a ++ b).data.toList = got)) (Hna : Hid (Pl.isNum a.data.toList = na)) (Hnb : Hid (Pl.isNum b.data.toList = nb))
    (Htb : Hid (Pl.isNum (({ data := #[49] } : ByteArray) ++ b).data.toList = tb)) (Htd : Hid (Pl.allDig b.data.toList = tb))
    (Hw : Hid (got = if ea then nb else if eb then na else (na && !n0) && tb)) :
    Calls Try.prog 4 #[.string a, .string b] w fun e w' => e = .returned (.bool true) ∧ w' = w := by
  have Ha : Hid (a.size ≤ maxLen) := hide (by unfold maxLen; omega)
  have Hb : Hid (b.size ≤ maxLen) := hide (by unfold maxLen; omega)
  have Hab : Hid ((a ++ b).size ≤ maxLen) := hide (by rw [ByteArray.size_append]; unfold maxLen; omega)
  have H1b : Hid ((({ data := #[49] } : ByteArray) ++ b).size ≤ maxLen) := hide (by rw [cat_size1]; unfold maxLen; omega)
  go_enter Try.func4, Try.ntmps4
  go_wp2_with (go_at_call 8; refine (bytes2_yes _ _ _ (by omega)).mono ?_; rintro e w' ⟨rfl, rfl⟩)
  refine (num_is _ _ _ (unhide Hab) (unhide Hgot)).mono ?_; rintro e w' ⟨rfl, rfl⟩
  go_wp2_with fail
  refine (num_is _ _ _ (unhide Ha) (unhide Hna)).mono ?_; rintro e w' ⟨rfl, rfl⟩
  go_wp2_with fail
  refine (num_is _ _ _ (unhide Hb) (unhide Hnb)).mono ?_; rintro e w' ⟨rfl, rfl⟩
  go_wp2_with fail
  refine (num_is _ _ _ (unhide H1b) (unhide Htb)).mono ?_; rintro e w' ⟨rfl, rfl⟩
  clear Hgot Hna Hnb Htb Ha Hab H1b
  have hw := unhide Hw
  clear Hw
  cases ea <;> cases eb <;> cases n0 <;> cases na <;> cases nb <;> cases tb <;> simp at hw <;> subst hw
  all_goals
    go_wp2_with fail
    refine (dig_is _ _ _ (unhide Hb) (unhide Htd)).mono ?_; rintro e w' ⟨rfl, rfl⟩
    go_wp2_with fail
    go_ret
    exact ⟨rfl, rfl⟩

theorem isEmpty_list (s : ByteArray) (h : s.toList.isEmpty = true) : s.data.toList = [] := by
  rw [← ByteArray.toList_eq]; simpa using h

theorem join_law (a b : ByteArray) :
    Pl.isNum (a ++ b).data.toList = if a.toList.isEmpty then Pl.isNum b.data.toList else if b.toList.isEmpty then Pl.isNum a.data.toList
      else (Pl.isNum a.data.toList && !(a.toList == [48])) && Pl.isNum (({ data := #[49] } : ByteArray) ++ b).data.toList := by
  rw [cat_data, cat_one]
  cases ha : a.toList.isEmpty with
  | true => rw [isEmpty_list a ha]; rfl
  | false =>
    cases hb : b.toList.isEmpty with
    | true => rw [isEmpty_list b hb]; simp
    | false =>
      rw [ByteArray.toList_eq] at ha hb
      rw [Pl.isNum_join _ _ ha hb, ByteArray.toList_eq]; rfl

set_option maxHeartbeats 1000000 in
theorem join_any (a b : ByteArray) (w : World) (ha : a.size ≤ maxLen) (hb : b.size ≤ maxLen) :
    Calls Try.prog 4 #[.string a, .string b] w fun e w' => e = .returned (.bool true) ∧ w' = w := by
  by_cases h20 : a.size + b.size ≤ 1048576
  · by_cases h1 : a.size ≤ 65536
    · by_cases h2 : b.size ≤ 65536
      · exact join_core a b w h1 h2 _ _ _ _ _ _ _ rfl rfl rfl (hide rfl) (hide rfl) (hide rfl) (hide rfl) (hide (by rw [cat_one, Pl.isNum_one])) (hide (join_law a b))
      · go_enter Try.func4, Try.ntmps4
        go_wp2_with (go_at_call 8; refine (bytes2_yes _ _ _ h20).mono ?_; rintro e w' ⟨rfl, rfl⟩)
        go_ret
        exact ⟨rfl, rfl⟩
    · go_enter Try.func4, Try.ntmps4
      go_wp2_with (go_at_call 8; refine (bytes2_yes _ _ _ h20).mono ?_; rintro e w' ⟨rfl, rfl⟩)
      go_ret
      exact ⟨rfl, rfl⟩
  · have Ha := hide ha; have Hb := hide hb
    clear ha hb
    go_enter Try.func4, Try.ntmps4
    go_wp2_with (go_at_call 8; refine (bytes2_no _ _ _ (unhide Ha) (unhide Hb) h20).mono ?_; rintro e w' ⟨rfl, rfl⟩)
    go_ret
    exact ⟨rfl, rfl⟩
end Go.Proofs.Qxb6615911a
