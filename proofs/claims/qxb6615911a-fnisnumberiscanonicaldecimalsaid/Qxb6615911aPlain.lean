/-
  The plain functions of this seat: no Go in sight.
-/
namespace Go.Proofs.Qxb6615911a.Pl

/-- every byte is an ASCII digit -/
def dig (c : UInt8) : Bool := decide (48 ≤ (c.toNat : Int) ∧ (c.toNat : Int) ≤ 57)
def allDig (l : List UInt8) : Bool := l.all dig
def isDig (l : List UInt8) : Bool := !l.isEmpty && allDig l
def isNum (l : List UInt8) : Bool := isDig l && (l == [48] || !(l.head? == some 48))

theorem dig_iff (c : UInt8) : dig c = true ↔ (48 ≤ (c.toNat : Int) ∧ (c.toNat : Int) ≤ 57) := by
  unfold dig; simp

theorem allDig_snoc (l : List UInt8) (c : UInt8) : allDig (l ++ [c]) = (allDig l && dig c) := by
  unfold allDig; simp

theorem allDig_append (l m : List UInt8) : allDig (l ++ m) = (allDig l && allDig m) := by
  unfold allDig; simp

theorem take_snoc (s : ByteArray) (k : Nat) (h : k < s.size) : s.data.toList.take (k + 1) = s.data.toList.take k ++ [s[k]] := by
  rw [List.take_succ_eq_append_getElem (by simpa using h)]; rfl

theorem allDig_false (s : ByteArray) (k : Nat) (h : k < s.size) (hd : dig s[k] = false) : allDig s.data.toList = false := by
  have h1 : s.data.toList = s.data.toList.take (k + 1) ++ s.data.toList.drop (k + 1) := (List.take_append_drop _ _).symm
  rw [h1, allDig_append, take_snoc s k h, allDig_snoc, hd]; simp

/-- the first k bytes are '0' -/
def zeros (l : List UInt8) (k : Nat) : Prop := ∀ i, i < k → l[i]? = some 48

theorem isNum_zero (l : List UInt8) : isNum (48 :: l) = l.isEmpty := by
  unfold isNum
  cases l with
  | nil => decide
  | cons a l => simp

theorem isNum_head (c : UInt8) (l : List UInt8) (h : ¬ c = 48) : isNum (c :: l) = allDig (c :: l) := by
  unfold isNum isDig
  have : ((c :: l).head? == some 48) = false := by simp [h]
  rw [this]; simp

theorem isNum_false (l : List UInt8) (h : allDig l = false) : isNum l = false := by
  unfold isNum isDig; rw [h]; simp

theorem allDig_drop (l : List UInt8) (k : Nat) (h : allDig l = true) : allDig (l.drop k) = true := by
  have : allDig (l.take k ++ l.drop k) = true := by rw [List.take_append_drop]; exact h
  rw [allDig_append] at this; simp at this; exact this.2

theorem law_in (l : List UInt8) (k : Nat) (hd : allDig l = true) (hk : k < l.length) (hz : zeros l k) (hx : ¬ l[k] = 48) :
    isNum l = (l.drop k == l) ∧ isNum (l.drop k) = true := by
  have h2 : isNum (l.drop k) = true := by
    have e := List.drop_eq_getElem_cons hk
    rw [e, isNum_head _ _ hx, ← e]; exact allDig_drop l k hd
  refine ⟨?_, h2⟩
  cases k with
  | zero => rw [List.drop_zero] at h2 ⊢; rw [h2]; simp
  | succ k =>
    have h0 := hz 0 (by omega)
    cases l with
    | nil => simp at hk
    | cons a l =>
      simp at h0; subst h0
      rw [isNum_zero]
      have h3 : l.isEmpty = false := by cases l with
        | nil => simp at hk
        | cons a l => rfl
      rw [h3]
      have h4 : ¬ ((48 :: l).drop (k + 1) = 48 :: l) := by
        intro h; have := congrArg List.length h; simp at this; omega
      exact (beq_eq_false_iff_ne.2 h4).symm

theorem law_all (l : List UInt8) (hne : l.isEmpty = false) (hz : zeros l l.length) : isNum l = ([48] == l) := by
  cases l with
  | nil => cases hne
  | cons a l =>
    have h0 := hz 0 (by simp)
    simp at h0; subst h0
    rw [isNum_zero]
    cases l with
    | nil => rfl
    | cons b l => rfl

theorem zeros_succ (l : List UInt8) (k : Nat) (hz : zeros l k) (hx : l[k]? = some 48) : zeros l (k + 1) := by
  intro i hi
  by_cases h : i = k
  · subst h; exact hx
  · exact hz i (by omega)

/-- a number, put together out of two runs -/
theorem isNum_join (a b : List UInt8) (ha : a.isEmpty = false) (hb : b.isEmpty = false) :
    isNum (a ++ b) = ((isNum a && !(a == [48])) && isNum (49 :: b)) := by
  rw [isNum_head 49 b (by decide)]
  have e : allDig (49 :: b) = allDig b := by
    have := allDig_append [49] b
    simp only [List.singleton_append] at this
    rw [this]; simp [show allDig [49] = true from by decide]
  rw [e]
  cases a with
  | nil => cases ha
  | cons x a =>
    by_cases hx : x = 48
    · subst hx
      rw [List.cons_append, isNum_zero, isNum_zero]
      cases a with
      | nil => cases b with
        | nil => cases hb
        | cons y b => simp
      | cons y a => simp
    · rw [List.cons_append, isNum_head _ _ hx, isNum_head _ _ hx, ← List.cons_append, allDig_append]
      have : ((x :: a) == [48]) = false := by simp [hx]
      rw [this]; simp

theorem isNum_one (b : List UInt8) : isNum (49 :: b) = allDig b := by
  rw [isNum_head 49 b (by decide)]
  have := allDig_append [49] b
  simp only [List.singleton_append] at this
  rw [this]; simp [show allDig [49] = true from by decide]

end Go.Proofs.Qxb6615911a.Pl
