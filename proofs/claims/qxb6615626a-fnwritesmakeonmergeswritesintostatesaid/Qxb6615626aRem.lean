/-
  removeAt at each element type.
-/
import Derived.Test.Qxb6615626aIns
namespace Go.Proofs.Qxb6615626a
open Go.RowKit
set_option linter.unusedVariables false

/-- copy(s[i:], s[i+1:]) in a row -/
theorem unshift_row {P : Program} {w : World} {g : Nat} {e t : TypeId} {cap : Nat} {xs : List Value} (hrow : Row w g e 1 xs.length cap xs)
    (hu : P.underlying t = some (.slice e)) (hs : (P.info? e).map (·.size) = some 1) (h1 : One xs) (i : Nat) (hi : i + 1 < xs.length) :
    ∃ cur2 : Array Value, (∀ ty, (Builtin.copy_ #[t, t] ty #[.slice (some ⟨g, i, none⟩) (xs.length - i) (cap - i), .slice (some ⟨g, i + 1, none⟩) (xs.length - (i + 1)) (cap - (i + 1))]).run P w =
        .ok (goInt ((xs.length - (i + 1) : Nat) : Int)) (w.setRow g cur2)) ∧ Row (w.setRow g cur2) g e 1 xs.length cap (xs.take i ++ xs.drop (i + 1) ++ xs.drop (xs.length - 1)) := by
  have hrow' := hrow
  obtain ⟨hl, cur, hg, hn, hm, hsz, htk⟩ := hrow
  have hcs : (xs.drop (i + 1)).length = xs.length - (i + 1) := by simp
  rw [Nat.mul_one] at htk hsz
  refine ⟨(cur.toList.take i ++ xs.drop (i + 1) ++ cur.toList.drop (i + (xs.drop (i + 1)).length)).toArray, fun ty => ?_, ?_⟩
  · have := run_copy_row (P := P) w t t ty e g i (xs.length - i) (cap - i) ⟨g, i + 1, none⟩ (xs.length - (i + 1)) (cap - (i + 1)) cur e (xs.drop (i + 1)) hu hs hg
      (by rw [hcs]; exact (Nat.min_eq_left (by omega)).symm)
      (fun j v hj => by
        rw [addr_add]
        refine hrow'.cell? ?_
        rw [List.getElem?_drop] at hj
        exact hj)
      (by rw [hcs]; omega) (fun v hv => h1 v (List.mem_of_mem_drop hv))
    rw [hcs] at this ⊢
    exact this
  · refine ⟨by simp; omega, _, setRow_heap w g cur _ e _ hg, hn, hm, ?_, ?_⟩
    · simp only [List.size_toArray, List.length_append, List.length_take, List.length_drop, Array.length_toList]; omega
    · rw [Nat.mul_one]
      have hti : cur.toList.take i = xs.take i := by
        have : cur.toList.take i = (cur.toList.take xs.length).take i := by rw [List.take_take, Nat.min_eq_left (by omega)]
        rw [this, htk]
      have hdr : (cur.toList.drop (xs.length - 1)).take 1 = xs.drop (xs.length - 1) := by
        have e1 : xs.drop (xs.length - 1) = (cur.toList.take xs.length).drop (xs.length - 1) := by rw [htk]
        rw [e1, List.drop_take]
        congr 1; omega
      rw [hti, hcs]
      have hidx : i + (xs.length - (i + 1)) = xs.length - 1 := by omega
      rw [hidx]
      show ((xs.take i ++ xs.drop (i + 1) ++ cur.toList.drop (xs.length - 1))).take xs.length = _
      have hpl : (xs.take i ++ xs.drop (i + 1)).length = xs.length - 1 := by simp; omega
      rw [List.take_append, hpl, List.take_of_length_le (by rw [hpl]; omega), show xs.length - (xs.length - 1) = 1 from by omega, hdr]

theorem drop_last_one {xs : List Value} (h : 0 < xs.length) : ∃ z, xs.drop (xs.length - 1) = [z] := by
  refine ⟨xs[xs.length - 1], ?_⟩
  rw [List.drop_eq_getElem_cons (by omega), List.drop_eq_nil_iff.2 (by omega)]

set_option maxHeartbeats 1000000 in
theorem removeAt113 (g cap i : Nat) (xs : List Value) (w : World) (hn : xs.length ≤ 100000) (hi : i < xs.length) (hrow : Row w g 23 1 xs.length cap xs) (h1 : One xs) :
    Calls Try.prog 113 #[.slice (some ⟨g, 0, none⟩) xs.length cap, .int .i64 i] w fun e w' => e = .returned (.slice (some ⟨g, 0, none⟩) (xs.length - 1) cap) ∧
      Row w' g 23 1 (xs.length - 1) cap (xs.take i ++ xs.drop (i + 1)) ∧ Fr (· = g) w w' := by
  have hcl : xs.length ≤ cap := by obtain ⟨_, _, _, h, _⟩ := hrow; exact h
  have hcm : cap ≤ maxLen := by obtain ⟨_, _, _, _, h, _⟩ := hrow; exact h
  unfold maxLen at hcm
  have hl1 : (xs.length : Int) - 1 = ((xs.length - 1 : Nat) : Int) := by omega
  have HR := hide hrow
  clear hrow
  by_cases hin : i + 1 < xs.length
  · obtain ⟨cur2, hcp, hrow2⟩ := unshift_row (P := Try.prog) (unhide HR).drew Try.underlying22 (by kernel_rfl) h1 i hin
    obtain ⟨z, hz⟩ := drop_last_one (xs := xs) (by omega)
    rw [hz] at hrow2
    have HR2 := hide hrow2
    clear hrow2
    have hpl : (xs.take i ++ xs.drop (i + 1)).length = xs.length - 1 := by simp; omega
    have hcell : (w.drew.setRow g cur2).cell? ⟨g, xs.length - 1, none⟩ = some z := (unhide HR2).cell? (by rw [List.getElem?_append_right (by omega), hpl]; simp)
    have hfz : (w.drew.setRow g cur2).frozen? ⟨g, xs.length - 1, none⟩ = false := (unhide HR2).frozen _
    have HZ := hide hz; have HPL := hide hpl
    clear hz hpl
    obtain ⟨n, hnn⟩ : ∃ n, n = xs.length := ⟨_, rfl⟩
    obtain ⟨m, hm⟩ : ∃ m, m = xs.length - 1 := ⟨_, rfl⟩
    rw [← hm] at hcell hfz hl1 HPL ⊢
    rw [← hnn] at hcp hl1 hn hi hcl hin HR2 ⊢
    have hmn : m + 1 = n := by omega
    have HMN := hide hmn
    have hm2 : m < n := by omega
    clear hmn hm hnn HR
    go_enter Try.func113, Try.ntmps113
    go_wp2_with fail
    go_region
    go_wp2_with fail
    go_ret
    refine ⟨rfl, ?_, ?_⟩
    · have := ((unhide HR2).setCell (j := m) (by rw [List.length_append, unhide HPL]; simp) (.slice none 0 0)).short m (by omega)
      rw [Nat.mul_one, set_mid _ _ _ _ _ (unhide HPL)] at this
      rw [List.take_left' (unhide HPL)] at this
      exact this
    · exact (((Fr.refl (· = g) w).drew.setRow g cur2 (fun _ => rfl)).setCell ⟨g, m, none⟩ _ (fun _ => rfl))
  · have hiz : i = xs.length - 1 := by omega
    have hcp : ∀ d s c1 c2 n ty, (Builtin.copy_ #[22, 22] ty #[.slice d n c1, .slice s 0 c2]).run Try.prog w.drew = .ok (goInt 0) w.drew := fun d s c1 c2 n ty => by
      have := run_copy_none (P := Try.prog) w.drew 22 22 ty 23 d s n c1 0 c2 Try.underlying22 (by kernel_rfl) (by first | exact Nat.min_eq_left (Nat.zero_le _) | exact Nat.min_eq_right (Nat.zero_le _))
      exact this
    obtain ⟨z, hz⟩ := drop_last_one (xs := xs) (by omega)
    have hcell : w.cell? ⟨g, i, none⟩ = some z := (unhide HR).cell? (by
      have : (xs.drop (xs.length - 1))[0]? = some z := by rw [hz]; rfl
      rw [List.getElem?_drop, Nat.add_zero, ← hiz] at this
      exact this)
    have hfz : w.frozen? ⟨g, i, none⟩ = false := (unhide HR).frozen _
    have HZ := hide hz
    obtain ⟨n, hnn⟩ : ∃ n, n = xs.length := ⟨_, rfl⟩
    have hn1 : n = i + 1 := by omega
    have HNN := hide hnn
    rw [← hiz] at hl1 ⊢
    rw [← hnn] at hl1 hn hcl hin ⊢
    have HR' := HR
    rw [← hnn] at HR'
    clear hz hiz HR hnn
    subst hn1
    clear hin hi
    by_cases hcc : i + 1 < cap
    · go_enter Try.func113, Try.ntmps113
      go_wp2_with fail
      go_region
      go_wp2_with fail
      go_ret
      refine ⟨rfl, ?_, ?_⟩
      · have := ((unhide HR').setCell (j := i) (by have := unhide HNN; omega) (.slice none 0 0)).short i (by omega)
        rw [Nat.mul_one, List.take_set_of_le (Nat.le_refl _)] at this
        rw [List.drop_eq_nil_iff.2 (by have := unhide HNN; omega), List.append_nil]
        exact this
      · exact (Fr.refl (· = g) w).drew.setCell ⟨g, i, none⟩ _ (fun _ => rfl)
    · have hc2 : cap = i + 1 := by omega
      subst hc2
      clear hcc hcl
      go_enter Try.func113, Try.ntmps113
      go_wp2_with fail
      go_region
      go_wp2_with fail
      go_ret
      refine ⟨rfl, ?_, ?_⟩
      · have := ((unhide HR').setCell (j := i) (by have := unhide HNN; omega) (.slice none 0 0)).short i (by omega)
        rw [Nat.mul_one, List.take_set_of_le (Nat.le_refl _)] at this
        rw [List.drop_eq_nil_iff.2 (by have := unhide HNN; omega), List.append_nil]
        exact this
      · exact (Fr.refl (· = g) w).drew.setCell ⟨g, i, none⟩ _ (fun _ => rfl)

set_option maxHeartbeats 1000000 in
theorem removeAt114 (g cap i : Nat) (xs : List Value) (w : World) (hn : xs.length ≤ 100000) (hi : i < xs.length) (hrow : Row w g 48 1 xs.length cap xs) (h1 : One xs) :
    Calls Try.prog 114 #[.slice (some ⟨g, 0, none⟩) xs.length cap, .int .i64 i] w fun e w' => e = .returned (.slice (some ⟨g, 0, none⟩) (xs.length - 1) cap) ∧
      Row w' g 48 1 (xs.length - 1) cap (xs.take i ++ xs.drop (i + 1)) ∧ Fr (· = g) w w' := by
  have hcl : xs.length ≤ cap := by obtain ⟨_, _, _, h, _⟩ := hrow; exact h
  have hcm : cap ≤ maxLen := by obtain ⟨_, _, _, _, h, _⟩ := hrow; exact h
  unfold maxLen at hcm
  have hl1 : (xs.length : Int) - 1 = ((xs.length - 1 : Nat) : Int) := by omega
  have HR := hide hrow
  clear hrow
  by_cases hin : i + 1 < xs.length
  · obtain ⟨cur2, hcp, hrow2⟩ := unshift_row (P := Try.prog) (unhide HR).drew Try.underlying38 (by kernel_rfl) h1 i hin
    obtain ⟨z, hz⟩ := drop_last_one (xs := xs) (by omega)
    rw [hz] at hrow2
    have HR2 := hide hrow2
    clear hrow2
    have hpl : (xs.take i ++ xs.drop (i + 1)).length = xs.length - 1 := by simp; omega
    have hcell : (w.drew.setRow g cur2).cell? ⟨g, xs.length - 1, none⟩ = some z := (unhide HR2).cell? (by rw [List.getElem?_append_right (by omega), hpl]; simp)
    have hfz : (w.drew.setRow g cur2).frozen? ⟨g, xs.length - 1, none⟩ = false := (unhide HR2).frozen _
    have HZ := hide hz; have HPL := hide hpl
    clear hz hpl
    obtain ⟨n, hnn⟩ : ∃ n, n = xs.length := ⟨_, rfl⟩
    obtain ⟨m, hm⟩ : ∃ m, m = xs.length - 1 := ⟨_, rfl⟩
    rw [← hm] at hcell hfz hl1 HPL ⊢
    rw [← hnn] at hcp hl1 hn hi hcl hin HR2 ⊢
    have hmn : m + 1 = n := by omega
    have HMN := hide hmn
    have hm2 : m < n := by omega
    clear hmn hm hnn HR
    go_enter Try.func114, Try.ntmps114
    go_wp2_with fail
    go_region
    go_wp2_with fail
    go_ret
    refine ⟨rfl, ?_, ?_⟩
    · have := ((unhide HR2).setCell (j := m) (by rw [List.length_append, unhide HPL]; simp) (.pointer none)).short m (by omega)
      rw [Nat.mul_one, set_mid _ _ _ _ _ (unhide HPL)] at this
      rw [List.take_left' (unhide HPL)] at this
      exact this
    · exact (((Fr.refl (· = g) w).drew.setRow g cur2 (fun _ => rfl)).setCell ⟨g, m, none⟩ _ (fun _ => rfl))
  · have hiz : i = xs.length - 1 := by omega
    have hcp : ∀ d s c1 c2 n ty, (Builtin.copy_ #[38, 38] ty #[.slice d n c1, .slice s 0 c2]).run Try.prog w.drew = .ok (goInt 0) w.drew := fun d s c1 c2 n ty => by
      have := run_copy_none (P := Try.prog) w.drew 38 38 ty 48 d s n c1 0 c2 Try.underlying38 (by kernel_rfl) (by first | exact Nat.min_eq_left (Nat.zero_le _) | exact Nat.min_eq_right (Nat.zero_le _))
      exact this
    obtain ⟨z, hz⟩ := drop_last_one (xs := xs) (by omega)
    have hcell : w.cell? ⟨g, i, none⟩ = some z := (unhide HR).cell? (by
      have : (xs.drop (xs.length - 1))[0]? = some z := by rw [hz]; rfl
      rw [List.getElem?_drop, Nat.add_zero, ← hiz] at this
      exact this)
    have hfz : w.frozen? ⟨g, i, none⟩ = false := (unhide HR).frozen _
    have HZ := hide hz
    obtain ⟨n, hnn⟩ : ∃ n, n = xs.length := ⟨_, rfl⟩
    have hn1 : n = i + 1 := by omega
    have HNN := hide hnn
    rw [← hiz] at hl1 ⊢
    rw [← hnn] at hl1 hn hcl hin ⊢
    have HR' := HR
    rw [← hnn] at HR'
    clear hz hiz HR hnn
    subst hn1
    clear hin hi
    by_cases hcc : i + 1 < cap
    · go_enter Try.func114, Try.ntmps114
      go_wp2_with fail
      go_region
      go_wp2_with fail
      go_ret
      refine ⟨rfl, ?_, ?_⟩
      · have := ((unhide HR').setCell (j := i) (by have := unhide HNN; omega) (.pointer none)).short i (by omega)
        rw [Nat.mul_one, List.take_set_of_le (Nat.le_refl _)] at this
        rw [List.drop_eq_nil_iff.2 (by have := unhide HNN; omega), List.append_nil]
        exact this
      · exact (Fr.refl (· = g) w).drew.setCell ⟨g, i, none⟩ _ (fun _ => rfl)
    · have hc2 : cap = i + 1 := by omega
      subst hc2
      clear hcc hcl
      go_enter Try.func114, Try.ntmps114
      go_wp2_with fail
      go_region
      go_wp2_with fail
      go_ret
      refine ⟨rfl, ?_, ?_⟩
      · have := ((unhide HR').setCell (j := i) (by have := unhide HNN; omega) (.pointer none)).short i (by omega)
        rw [Nat.mul_one, List.take_set_of_le (Nat.le_refl _)] at this
        rw [List.drop_eq_nil_iff.2 (by have := unhide HNN; omega), List.append_nil]
        exact this
      · exact (Fr.refl (· = g) w).drew.setCell ⟨g, i, none⟩ _ (fun _ => rfl)

set_option maxHeartbeats 1000000 in
theorem removeAt120 (g cap i : Nat) (xs : List Value) (w : World) (hn : xs.length ≤ 100000) (hi : i < xs.length) (hrow : Row w g 78 1 xs.length cap xs) (h1 : One xs) :
    Calls Try.prog 120 #[.slice (some ⟨g, 0, none⟩) xs.length cap, .int .i64 i] w fun e w' => e = .returned (.slice (some ⟨g, 0, none⟩) (xs.length - 1) cap) ∧
      Row w' g 78 1 (xs.length - 1) cap (xs.take i ++ xs.drop (i + 1)) ∧ Fr (· = g) w w' := by
  have hcl : xs.length ≤ cap := by obtain ⟨_, _, _, h, _⟩ := hrow; exact h
  have hcm : cap ≤ maxLen := by obtain ⟨_, _, _, _, h, _⟩ := hrow; exact h
  unfold maxLen at hcm
  have hl1 : (xs.length : Int) - 1 = ((xs.length - 1 : Nat) : Int) := by omega
  have HR := hide hrow
  clear hrow
  by_cases hin : i + 1 < xs.length
  · obtain ⟨cur2, hcp, hrow2⟩ := unshift_row (P := Try.prog) (unhide HR).drew Try.underlying117 (by kernel_rfl) h1 i hin
    obtain ⟨z, hz⟩ := drop_last_one (xs := xs) (by omega)
    rw [hz] at hrow2
    have HR2 := hide hrow2
    clear hrow2
    have hpl : (xs.take i ++ xs.drop (i + 1)).length = xs.length - 1 := by simp; omega
    have hcell : (w.drew.setRow g cur2).cell? ⟨g, xs.length - 1, none⟩ = some z := (unhide HR2).cell? (by rw [List.getElem?_append_right (by omega), hpl]; simp)
    have hfz : (w.drew.setRow g cur2).frozen? ⟨g, xs.length - 1, none⟩ = false := (unhide HR2).frozen _
    have HZ := hide hz; have HPL := hide hpl
    clear hz hpl
    obtain ⟨n, hnn⟩ : ∃ n, n = xs.length := ⟨_, rfl⟩
    obtain ⟨m, hm⟩ : ∃ m, m = xs.length - 1 := ⟨_, rfl⟩
    rw [← hm] at hcell hfz hl1 HPL ⊢
    rw [← hnn] at hcp hl1 hn hi hcl hin HR2 ⊢
    have hmn : m + 1 = n := by omega
    have HMN := hide hmn
    have hm2 : m < n := by omega
    clear hmn hm hnn HR
    go_enter Try.func120, Try.ntmps120
    go_wp2_with fail
    go_region
    go_wp2_with fail
    go_ret
    refine ⟨rfl, ?_, ?_⟩
    · have := ((unhide HR2).setCell (j := m) (by rw [List.length_append, unhide HPL]; simp) (.pointer none)).short m (by omega)
      rw [Nat.mul_one, set_mid _ _ _ _ _ (unhide HPL)] at this
      rw [List.take_left' (unhide HPL)] at this
      exact this
    · exact (((Fr.refl (· = g) w).drew.setRow g cur2 (fun _ => rfl)).setCell ⟨g, m, none⟩ _ (fun _ => rfl))
  · have hiz : i = xs.length - 1 := by omega
    have hcp : ∀ d s c1 c2 n ty, (Builtin.copy_ #[117, 117] ty #[.slice d n c1, .slice s 0 c2]).run Try.prog w.drew = .ok (goInt 0) w.drew := fun d s c1 c2 n ty => by
      have := run_copy_none (P := Try.prog) w.drew 117 117 ty 78 d s n c1 0 c2 Try.underlying117 (by kernel_rfl) (by first | exact Nat.min_eq_left (Nat.zero_le _) | exact Nat.min_eq_right (Nat.zero_le _))
      exact this
    obtain ⟨z, hz⟩ := drop_last_one (xs := xs) (by omega)
    have hcell : w.cell? ⟨g, i, none⟩ = some z := (unhide HR).cell? (by
      have : (xs.drop (xs.length - 1))[0]? = some z := by rw [hz]; rfl
      rw [List.getElem?_drop, Nat.add_zero, ← hiz] at this
      exact this)
    have hfz : w.frozen? ⟨g, i, none⟩ = false := (unhide HR).frozen _
    have HZ := hide hz
    obtain ⟨n, hnn⟩ : ∃ n, n = xs.length := ⟨_, rfl⟩
    have hn1 : n = i + 1 := by omega
    have HNN := hide hnn
    rw [← hiz] at hl1 ⊢
    rw [← hnn] at hl1 hn hcl hin ⊢
    have HR' := HR
    rw [← hnn] at HR'
    clear hz hiz HR hnn
    subst hn1
    clear hin hi
    by_cases hcc : i + 1 < cap
    · go_enter Try.func120, Try.ntmps120
      go_wp2_with fail
      go_region
      go_wp2_with fail
      go_ret
      refine ⟨rfl, ?_, ?_⟩
      · have := ((unhide HR').setCell (j := i) (by have := unhide HNN; omega) (.pointer none)).short i (by omega)
        rw [Nat.mul_one, List.take_set_of_le (Nat.le_refl _)] at this
        rw [List.drop_eq_nil_iff.2 (by have := unhide HNN; omega), List.append_nil]
        exact this
      · exact (Fr.refl (· = g) w).drew.setCell ⟨g, i, none⟩ _ (fun _ => rfl)
    · have hc2 : cap = i + 1 := by omega
      subst hc2
      clear hcc hcl
      go_enter Try.func120, Try.ntmps120
      go_wp2_with fail
      go_region
      go_wp2_with fail
      go_ret
      refine ⟨rfl, ?_, ?_⟩
      · have := ((unhide HR').setCell (j := i) (by have := unhide HNN; omega) (.pointer none)).short i (by omega)
        rw [Nat.mul_one, List.take_set_of_le (Nat.le_refl _)] at this
        rw [List.drop_eq_nil_iff.2 (by have := unhide HNN; omega), List.append_nil]
        exact this
      · exact (Fr.refl (· = g) w).drew.setCell ⟨g, i, none⟩ _ (fun _ => rfl)

end Go.Proofs.Qxb6615626a
