/-
  A region whose loads are read from cells that a LATE operation (number k) overwrites: till k comes up the condition S holds, and a load that waits to be read by k may be taken first.
-/
import Derived.Deep.RegionHeld3
namespace Go.Proofs.Qxb6615626a
open Go

section
variable {P : Program} {ops : Array Oper} {Q : Exit → Act → World → Prop} {md : Region.Mode} {S : World → Prop} {k : Nat}

/-- till operation k comes up S holds behind every operation; from k on, whatever order -/
def wpTill (P : Program) (md : Region.Mode) (ops : Array Oper) (Q : Exit → Act → World → Prop) (S : World → Prop) (k : Nat) : Nat → Array Bool → Act → World → Prop
  | 0, listed, a, w => Region.ready md ops listed = [] ∧ Q .normal a w
  | fuel + 1, listed, a, w =>
    (Region.ready md ops listed = [] → Q .normal a w) ∧
    ∀ i ∈ Region.ready md ops listed,
      (i = k → wpOp P ops Q i (fun a' w' => wpAny P md ops Q fuel (listed.setIfInBounds i true) a' w') a w) ∧
      (i ≠ k → wpOp P ops Q i (fun a' w' => S w' ∧ wpTill P md ops Q S k fuel (listed.setIfInBounds i true) a' w') a w)

theorem wpAny_of_till : ∀ (fuel : Nat) (listed : Array Bool) (a : Act) (w : World), wpTill P md ops Q S k fuel listed a w → wpAny P md ops Q fuel listed a w
  | 0, _, _, _, h => h
  | fuel + 1, _, _, _, h => ⟨h.1, fun i hi => by
      by_cases hk : i = k
      · exact (h.2 i hi).1 hk
      · exact wpOp_mono (fun a' w' h' => wpAny_of_till fuel _ a' w' h'.2) ((h.2 i hi).2 hk)⟩

/-- operation k waits for operation i -/
def waits (md : Region.Mode) (ops : Array Oper) : Nat → Nat → Nat → Bool
  | 0, _, _ => false
  | n + 1, k, i => ((ops[k]?).map (·.after.any fun e => Region.binds md e && (e.on == i || waits md ops n e.on i))).getD false

/-- what has come up has seen all that it waits for come up -/
def shutB (md : Region.Mode) (ops : Array Oper) (listed : Array Bool) : Bool :=
  (List.range ops.size).all fun j => !listed.getD j false || ((ops[j]?).map (·.after.all fun e => !Region.binds md e || listed.getD e.on false)).getD true

def ShutL (md : Region.Mode) (ops : Array Oper) (listed : Array Bool) : Prop :=
  ∀ j o, listed.getD j false = true → ops[j]? = some o → ∀ e ∈ o.after, Region.binds md e = true → listed.getD e.on false = true

theorem shutB_spec {listed : Array Bool} (h : shutB md ops listed = true) : ShutL md ops listed := by
  intro j o hj ho e he hb
  unfold shutB at h
  rw [List.all_eq_true] at h
  have hlt : j < ops.size := by
    rcases Nat.lt_or_ge j ops.size with h' | h'
    · exact h'
    · rw [Array.getElem?_eq_none h'] at ho; cases ho
  have := h j (List.mem_range.2 hlt)
  rw [hj, ho] at this
  simp only [Bool.not_true, Bool.false_or, Option.map_some, Option.getD_some, Array.all_eq_true_iff_forall_mem] at this
  have := this e he
  rw [hb] at this
  simpa using this

theorem ShutL.add {listed : Array Bool} {j : Nat} (h : ShutL md ops listed) (hj : j ∈ Region.ready md ops listed) : ShutL md ops (listed.setIfInBounds j true) := by
  intro l o hl ho e he hb
  by_cases hjl : j = l
  · subst hjl
    obtain ⟨_, o', ho', hall⟩ := mem_ready.1 hj
    rw [ho] at ho'; cases ho'
    exact getD_set_true (hall e he hb)
  · rw [getD_set_ne false hjl] at hl
    exact getD_set_true (h l o hl ho e he hb)

theorem getD_no {listed : Array Bool} {i : Nat} (h : listed.getD i true = false) : listed.getD i false = false := by
  rcases Nat.lt_or_ge i listed.size with h' | h'
  · simp [h'] at h ⊢; exact h
  · simp [Array.getElem?_eq_none h'] at h

theorem waits_no {listed : Array Bool} {i : Nat} (hs : ShutL md ops listed) (hi : listed.getD i true = false) :
    ∀ (n j : Nat), (∀ o, ops[j]? = some o → ∀ e ∈ o.after, Region.binds md e = true → listed.getD e.on false = true) → waits md ops n j i = false := by
  intro n
  induction n with
  | zero => intro j _; rfl
  | succ n ih =>
    intro j hj
    cases hw : waits md ops (n + 1) j i with
    | false => rfl
    | true =>
      exfalso
      unfold waits at hw
      cases ho : ops[j]? with
      | none => rw [ho] at hw; simp at hw
      | some o =>
        rw [ho] at hw
        simp only [Option.map_some, Option.getD_some, Array.any_eq_true', Bool.and_eq_true, Bool.or_eq_true, beq_iff_eq] at hw
        obtain ⟨e, he, hb, h⟩ := hw
        have hl := hj o ho e he hb
        rcases h with h | h
        · rw [h] at hl; rw [getD_no hi] at hl; cases hl
        · rw [ih e.on (fun o' ho' e' he' hb' => hs e.on o' hl ho' e' he' hb')] at h; cases h

/-- an operation that may come up now may be taken first, if it yields its value in every world that meets S and k waits for it -/
theorem wpTill_first {i : Nat} {oi : Oper} {v : Value} {n : Nat} (hi : ops[i]? = some oi) (hsel : ∀ (j : Nat) (o : Oper) cs b, ops[j]? = some o → o.op ≠ .select cs b)
    (hQ : ∀ c a w, Q (.panic c) (a.put oi.dst v) w → Q (.panic c) a w) (hwk : waits md ops n k i = true) (hik : i ≠ k) :
    ∀ (fuel : Nat) (listed : Array Bool) (a : Act) (w : World), ShutL md ops listed →
      (∀ j oj, ops[j]? = some oj → j ≠ i → listed.getD j true = false → (∀ e ∈ oj.after, Region.binds md e = true → e.on ≠ i) → oi.apart ops oj = true) →
      i ∈ Region.ready md ops listed → YieldsIf P ops S oi v a → S w →
      wpTill P md ops Q S k fuel (listed.setIfInBounds i true) (a.put oi.dst v) w → wpTill P md ops Q S k (fuel + 1) listed a w := by
  have nok : ∀ (listed : Array Bool), ShutL md ops listed → i ∈ Region.ready md ops listed → k ∈ Region.ready md ops listed → False := fun listed hsh hr hk => by
    have := waits_no hsh (mem_ready.1 hr).1 n k (fun o ho => by obtain ⟨_, o', ho', hall⟩ := mem_ready.1 hk; rw [ho] at ho'; cases ho'; exact hall)
    rw [hwk] at this; cases this
  intro fuel
  induction fuel with
  | zero =>
    intro listed a w hsh _ hr hy hS H
    refine ⟨fun h => (by rw [h] at hr; cases hr), fun j hj => ⟨fun e => ?_, fun e => ?_⟩⟩
    · subst e; exact (nok listed hsh hr hj).elim
    · by_cases hji : j = i
      · subst hji; exact hy.wpOp hi hS ⟨hS, H⟩
      · have := ready_mono hj hji
        rw [H.1] at this
        cases this
  | succ fuel ih =>
    intro listed a w hsh hfree hr hy hS H
    refine ⟨fun h => (by rw [h] at hr; cases hr), fun j hj => ⟨fun e => ?_, fun e => ?_⟩⟩
    · subst e; exact (nok listed hsh hr hj).elim
    · by_cases hji : j = i
      · subst hji; exact hy.wpOp hi hS ⟨hS, H⟩
      · have h1 := (H.2 j (ready_mono hj hji)).2 e
        obtain ⟨hjun, oj, hoj, hall⟩ := mem_ready.1 hj
        have hnot : ∀ e ∈ oj.after, Region.binds md e = true → e.on ≠ i := fun e he hb heq => by
          have h1 := hall e he hb
          have h0 := (mem_ready.1 hr).1
          rw [heq, getD_no h0] at h1
          cases h1
        have h2 := wpOp_putIf hoj (hfree j oj hoj hji hjun hnot) (fun cs b => hsel i oi cs b hi) (fun cs b => hsel j oj cs b hoj) hQ hy h1
        have hfree' : ∀ k ok, ops[k]? = some ok → k ≠ i → (listed.setIfInBounds j true).getD k true = false →
            (∀ e ∈ ok.after, Region.binds md e = true → e.on ≠ i) → oi.apart ops ok = true := fun k ok hk hki hun hno => by
          refine hfree k ok hk hki ?_ hno
          by_cases hjk : j = k
          · subst hjk; exact hjun
          · rw [getD_set_ne true hjk] at hun; exact hun
        refine wpOp_mono (fun a' w' h3 => ⟨h3.2.1, ih (listed.setIfInBounds j true) a' w' (hsh.add hj) hfree' (ready_mono hr (Ne.symm hji)) h3.1 h3.2.1 ?_⟩) h2
        rw [Array.setIfInBounds_comm _ _ hji]
        exact h3.2.2

/-- operation number i of a region that is written out -/
theorem op_of_drop {i : Nat} {oi : Oper} {rest : List Oper} (h : ops.toList.drop i = oi :: rest) : ops[i]? = some oi := by
  have := congrArg List.head? h
  rw [List.head?_drop] at this
  simpa using this

theorem wpTill_take (i : Nat) (n : Nat) {oi : Oper} {rest : List Oper} {v : Value} {fuel : Nat} {listed : Array Bool} {a : Act} {w : World} (hi : ops.toList.drop i = oi :: rest)
    (hs : Region.noSelect ops = true) (hf : Region.free md ops listed i = true) (hr : (Region.ready md ops listed).contains i = true)
    (hsh : shutB md ops listed = true) (hwk : waits md ops n k i = true) (hik : (i != k) = true)
    (hQ : ∀ c a w, Q (.panic c) (a.put oi.dst v) w → Q (.panic c) a w) (hS : S w) (hy : YieldsIf P ops S oi v a)
    (h : wpTill P md ops Q S k fuel (listed.setIfInBounds i true) (a.put oi.dst v) w) : wpTill P md ops Q S k (fuel + 1) listed a w :=
  wpTill_first (op_of_drop hi) (Region.noSelect_spec hs) hQ hwk (by simpa using hik) fuel listed a w (shutB_spec hsh) (Region.free_spec (op_of_drop hi) hf) (by simpa using hr) hy hS h

/-- operation i alone may come up, and is not k -/
theorem wpTill_one (i : Nat) {oi : Oper} {rest : List Oper} {fuel : Nat} {listed : Array Bool} {a : Act} {w : World} (hi : ops.toList.drop i = oi :: rest)
    (hr : Region.ready md ops listed = [i]) (hik : (i != k) = true)
    (h : ∀ K' : Act → World → Prop, Shut (∀ a w, S w → (S w → wpTill P md ops Q S k fuel (listed.setIfInBounds i true) a w) → K' a w) → if Region.wanted oi (yielded ops a.tmps) = true then Oper.wp P oi a w K' Q else K' (a.put oi.dst undef) w) :
    wpTill P md ops Q S k (fuel + 1) listed a w := by
  refine ⟨fun h => (by rw [hr] at h; cases h), fun j hj => ?_⟩
  rw [hr, List.mem_singleton] at hj
  subst hj
  exact ⟨fun e => by simp [e] at hik, fun _ => wpOp_step (op_of_drop hi) (fun K' hK => h K' (fun a w hS hW => hK a w ⟨hS, hW hS⟩))⟩

/-- operation k alone may come up -/
theorem wpTill_key {ok : Oper} {rest : List Oper} {fuel : Nat} {listed : Array Bool} {a : Act} {w : World} (hi : ops.toList.drop k = ok :: rest)
    (hr : Region.ready md ops listed = [k])
    (h : ∀ K' : Act → World → Prop, Shut (∀ a w, wpAny P md ops Q fuel (listed.setIfInBounds k true) a w → K' a w) → if Region.wanted ok (yielded ops a.tmps) = true then Oper.wp P ok a w K' Q else K' (a.put ok.dst undef) w) :
    wpTill P md ops Q S k (fuel + 1) listed a w := by
  refine ⟨fun h => (by rw [hr] at h; cases h), fun j hj => ?_⟩
  rw [hr, List.mem_singleton] at hj
  subst hj
  exact ⟨fun _ => wpOp_step (op_of_drop hi) (fun K' hK => h K' (fun a w hW => hK a w hW)), fun e => (e rfl).elim⟩

/-- operation i alone may come up (no condition any more) -/
theorem wpAny_one (i : Nat) {oi : Oper} {rest : List Oper} {fuel : Nat} {listed : Array Bool} {a : Act} {w : World} (hi : ops.toList.drop i = oi :: rest)
    (hr : Region.ready md ops listed = [i])
    (h : ∀ K' : Act → World → Prop, Shut (∀ a w, wpAny P md ops Q fuel (listed.setIfInBounds i true) a w → K' a w) → if Region.wanted oi (yielded ops a.tmps) = true then Oper.wp P oi a w K' Q else K' (a.put oi.dst undef) w) :
    wpAny P md ops Q (fuel + 1) listed a w := by
  refine ⟨fun h => (by rw [hr] at h; cases h), fun j hj => ?_⟩
  rw [hr, List.mem_singleton] at hj
  subst hj
  exact wpOp_step (op_of_drop hi) (fun K' hK => h K' (fun a w hW => hK a w hW))

theorem wpAny_end {listed : Array Bool} {a : Act} {w : World} (hr : Region.ready md ops listed = []) (h : Q .normal a w) :
    ∀ fuel, wpAny P md ops Q fuel listed a w
  | 0 => ⟨hr, h⟩
  | _ + 1 => ⟨fun _ => h, by rw [hr]; simp⟩

theorem wp_region_till (k : Nat) (S : World → Prop) {id : Nat} {a : Act} {w : World} (hm : P.follows .mixedOrders = true) (hS : S w.drew)
    (h : S w.drew → wpTill P .any ops Q S k ops.size (Array.replicate ops.size false) a w.drew) : (Code.region id ops true).wp P Q a w :=
  wp_region_any hm (wpAny_of_till _ _ _ _ (h hS))

end
end Go.Proofs.Qxb6615626a
