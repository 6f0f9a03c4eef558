/-
  Plain: byte strings in Go's order. No Go in sight.
-/
namespace Go.Proofs.Qxb6615626a.Pl

/-- bytes.Compare's answer -/
def cmp : List UInt8 → List UInt8 → Int
  | [], [] => 0
  | [], _ :: _ => -1
  | _ :: _, [] => 1
  | a :: as, b :: bs => if a < b then -1 else if b < a then 1 else cmp as bs

theorem cmp_range : ∀ a b : List UInt8, cmp a b = -1 ∨ cmp a b = 0 ∨ cmp a b = 1
  | [], [] => by simp [cmp]
  | [], _ :: _ => by simp [cmp]
  | _ :: _, [] => by simp [cmp]
  | a :: as, b :: bs => by
    have ih := cmp_range as bs
    unfold cmp
    split
    · exact .inl rfl
    · split
      · exact .inr (.inr rfl)
      · exact ih

theorem cmp_self : ∀ a : List UInt8, cmp a a = 0
  | [] => rfl
  | a :: as => by
    have := cmp_self as
    unfold cmp; rw [if_neg (UInt8.lt_irrefl a), if_neg (UInt8.lt_irrefl a)]; exact this

theorem u8_tri (a b : UInt8) (h1 : ¬ a < b) (h2 : ¬ b < a) : a = b := by
  rw [UInt8.lt_iff_toNat_lt] at h1 h2
  exact UInt8.toNat_inj.1 (by omega)

theorem cmp_eq_zero : ∀ a b : List UInt8, cmp a b = 0 → a = b
  | [], [], _ => rfl
  | [], _ :: _, h => by simp [cmp] at h
  | _ :: _, [], h => by simp [cmp] at h
  | a :: as, b :: bs, h => by
    unfold cmp at h
    split at h
    · simp at h
    · rename_i h1
      split at h
      · simp at h
      · rename_i h2
        rw [u8_tri a b h1 h2, cmp_eq_zero as bs h]

theorem cmp_zero_iff (a b : List UInt8) : cmp a b = 0 ↔ a = b :=
  ⟨cmp_eq_zero a b, fun h => by rw [h]; exact cmp_self b⟩

theorem cmp_swap : ∀ a b : List UInt8, cmp b a = - cmp a b
  | [], [] => rfl
  | [], _ :: _ => by simp [cmp]
  | _ :: _, [] => by simp [cmp]
  | a :: as, b :: bs => by
    have ih := cmp_swap as bs
    unfold cmp
    by_cases h1 : a < b
    · have h2 : ¬ b < a := by rw [UInt8.lt_iff_toNat_lt] at *; omega
      rw [if_pos h1, if_neg h2, if_pos h1]; rfl
    · by_cases h2 : b < a
      · rw [if_pos h2, if_neg h1, if_pos h2]
      · rw [if_neg h1, if_neg h2, if_neg h2, if_neg h1]; exact ih

/-- strictly below -/
def lt (a b : List UInt8) : Prop := cmp a b < 0

theorem lt_irrefl (a : List UInt8) : ¬ lt a a := by unfold lt; rw [cmp_self]; omega

theorem cmp_lt_trans : ∀ a b c : List UInt8, cmp a b ≤ 0 → cmp b c < 0 → cmp a c < 0
  | [], [], c, _, h => h
  | [], b :: bs, [], _, h => by simp [cmp] at h
  | [], b :: bs, c :: cs, _, _ => by simp [cmp]
  | a :: as, [], _, h, _ => by simp [cmp] at h
  | a :: as, b :: bs, [], _, h => by simp [cmp] at h
  | a :: as, b :: bs, c :: cs, h1, h2 => by
    have ih := cmp_lt_trans as bs cs
    unfold cmp at h1 h2 ⊢
    by_cases hab : a < b
    · by_cases hbc : b < c
      · have : a < c := by rw [UInt8.lt_iff_toNat_lt] at *; omega
        rw [if_pos this]; decide
      · rw [if_neg hbc] at h2
        by_cases hcb : c < b
        · rw [if_pos hcb] at h2; omega
        · have := u8_tri b c hbc hcb; subst this
          rw [if_pos hab]; decide
    · rw [if_neg hab] at h1
      by_cases hba : b < a
      · rw [if_pos hba] at h1; omega
      · rw [if_neg hba] at h1
        have := u8_tri a b hab hba; subst this
        by_cases hbc : a < c
        · rw [if_pos hbc]; decide
        · rw [if_neg hbc] at h2 ⊢
          by_cases hcb : c < a
          · rw [if_pos hcb] at h2; omega
          · rw [if_neg hcb] at h2 ⊢; exact ih h1 h2

theorem lt_trans {a b c : List UInt8} (h1 : lt a b) (h2 : lt b c) : lt a c := cmp_lt_trans a b c (by unfold lt at h1; omega) h2
theorem not_lt_of_lt {a b : List UInt8} (h : lt a b) : ¬ lt b a := fun h2 => lt_irrefl a (lt_trans h h2)
theorem lt_or_eq_or_gt (a b : List UInt8) : lt a b ∨ a = b ∨ lt b a := by
  unfold lt
  rcases cmp_range a b with h | h | h
  · left; omega
  · right; left; exact cmp_eq_zero a b h
  · right; right; rw [cmp_swap]; omega
theorem lt_of_le_of_lt {a b c : List UInt8} (h1 : ¬ lt b a) (h2 : lt b c) : lt a c := by
  rcases lt_or_eq_or_gt a b with h | h | h
  · exact lt_trans h h2
  · rw [h]; exact h2
  · exact absurd h h1
theorem lt_of_lt_of_le {a b c : List UInt8} (h1 : lt a b) (h2 : ¬ lt c b) : lt a c := by
  rcases lt_or_eq_or_gt b c with h | h | h
  · exact lt_trans h1 h
  · rw [← h]; exact h1
  · exact absurd h h2
theorem le_trans {a b c : List UInt8} (h1 : ¬ lt b a) (h2 : ¬ lt c b) : ¬ lt c a := fun h => h2 (lt_of_lt_of_le h h1)
theorem nil_lt {a : List UInt8} (h : a ≠ []) : lt [] a := by
  cases a with
  | nil => exact absurd rfl h
  | cons x l => unfold lt; simp [cmp]
theorem not_lt_nil (a : List UInt8) : ¬ lt a [] := by
  cases a with
  | nil => exact lt_irrefl _
  | cons x l => unfold lt; simp [cmp]
theorem cmp_neg_iff (a b : List UInt8) : cmp a b < 0 ↔ lt a b := Iff.rfl
theorem cmp_pos_iff (a b : List UInt8) : 0 < cmp a b ↔ lt b a := by unfold lt; rw [cmp_swap a b]; omega
theorem cmp_nonneg_iff (a b : List UInt8) : 0 ≤ cmp a b ↔ ¬ lt a b := by unfold lt; omega
theorem cmp_nonpos_iff (a b : List UInt8) : cmp a b ≤ 0 ↔ ¬ lt b a := by rw [← cmp_pos_iff]; omega

end Go.Proofs.Qxb6615626a.Pl
