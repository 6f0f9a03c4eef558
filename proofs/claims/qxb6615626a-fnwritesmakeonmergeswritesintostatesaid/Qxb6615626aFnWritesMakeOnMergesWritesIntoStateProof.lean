/-
  The proof of Rows.FnWritesMakeOnMergesWritesIntoStateSaid: the frame is the guide's (a shell at this function's number and types); the walk is law7_any.
-/
import Derived.Test.Qxb6615626aLaw7
import Derived.Test.Qxb6615626aOpenB
import Derived.Test.Qxb6615626aFnWritesMakeOnMergesWritesIntoStateFacts
import Derived.WalkKit
import Derived.ProofKit
import Derived.OpenShut
import Derived.ShutString
import Derived.ChangeOld
import Derived.Below
namespace Go.Proofs.Qxb6615626a.fnWritesMakeOnMergesWritesIntoState
open Go.ChangeShapes Go.WideShapes Go.ChangeAt Go.RowKit
set_option linter.unusedVariables false

theorem own : ownKnob Try.prog.godebug = none := by kernel_rfl
theorem laidOut : laidOutB Try.prog = true := by kernel_rfl

set_option maxRecDepth 100000 in
theorem lifted (os : Os) (started : os.Started) (H : Type) (enc : TypeId × Value → H) :
    ReturnsInHanded {} Try.checked os 7 .any (Rows.fnWritesMakeOnMergesWritesIntoStateSpec.pre6 enc Try.prog Try.f7 Rows.fnWritesMakeOnMergesWritesIntoStateRow.domain false) (Rows.fnWritesMakeOnMergesWritesIntoStateSpec.post enc Try.prog Try.f7 false true false false) := by
  refine returnsInHanded_of_change (C := Try.checked) own started (by kernel_rfl) Try.func7
    (ChangeSpec.witness6 (enc := enc) (C := Try.checked) false ⟨#[], #[.slice none 0 0, .slice none 0 0, .slice none 0 0, .slice none 0 0, .slice none 0 0], []⟩ 8 (by kernel_rfl) (by kernel_rfl) (by kernel_rfl) (by kernel_rfl)) ?_
  intro W base args ds gs before hval0 hW hcnd _
  have hval : ∀ (j : Nat) t v, Try.f7.params[j]? = some t → args[j]? = some v → Value.okWide Try.prog W .any base t v := hval0
  have hW' := hW
  obtain ⟨p, q, hA0, hV, rfl, hfz, hnd⟩ := hW
  have hA : DataW.TrodAll enc Try.prog W 0 (fun _ => true) true Try.f7.params.toList args.toList ds p := hA0
  rw [Try.params7] at hA hval
  obtain ⟨v0, vs0, d0, ds0, p0, q0, hargs, rfl, rfl, h0, r0⟩ := trodAll_cons hA
  obtain ⟨v1, vs1, d1, ds1, p1, q1, rfl, rfl, rfl, h1, r1⟩ := trodAll_cons r0
  obtain ⟨v2, vs2, d2, ds2, p2, q2, rfl, rfl, rfl, h2, r2⟩ := trodAll_cons r1
  obtain ⟨v3, vs3, d3, ds3, p3, q3, rfl, rfl, rfl, h3, r3⟩ := trodAll_cons r2
  obtain ⟨v4, vs4, d4, ds4, p4, q4, rfl, rfl, rfl, h4, r4⟩ := trodAll_cons r3
  obtain ⟨rfl, rfl, rfl⟩ := trodAll_nil r4
  obtain rfl : args = #[v0, v1, v2, v3, v4] := by cases args; simp_all
  obtain ⟨rfl, rfl⟩ := trodVars_none hV
  obtain ⟨a0, len0, cap0, rfl⟩ := okWide_slice Try.underlying22 (hval 0 22 v0 rfl rfl)
  have k0 := h0
  have lt0 : ∀ x ∈ p0, x.block < W.heap.size := by obtain ⟨m, hm⟩ := k0; exact DataW.trod_lt m _ _ _ hm
  obtain ⟨m0, hm0⟩ := h0
  obtain ⟨s0, ss0, ls0, e0, w0, x0⟩ := open_lst (enc := enc) (W := W) (fuel := m0) (v := .slice a0 len0 cap0) hm0
  obtain ⟨a1, len1, cap1, rfl⟩ := okWide_slice Try.underlying22 (hval 1 22 v1 rfl rfl)
  have k1 := h1
  have lt1 : ∀ x ∈ p1, x.block < W.heap.size := by obtain ⟨m, hm⟩ := k1; exact DataW.trod_lt m _ _ _ hm
  obtain ⟨m1, hm1⟩ := h1
  obtain ⟨s1, ss1, ls1, e1, w1, x1⟩ := open_lst (enc := enc) (W := W) (fuel := m1) (v := .slice a1 len1 cap1) hm1
  obtain ⟨a2, len2, cap2, rfl⟩ := okWide_slice Try.underlying22 (hval 2 22 v2 rfl rfl)
  have k2 := h2
  have lt2 : ∀ x ∈ p2, x.block < W.heap.size := by obtain ⟨m, hm⟩ := k2; exact DataW.trod_lt m _ _ _ hm
  obtain ⟨m2, hm2⟩ := h2
  obtain ⟨s2, ss2, ls2, e2, w2, x2⟩ := open_lst (enc := enc) (W := W) (fuel := m2) (v := .slice a2 len2 cap2) hm2
  obtain ⟨a3, len3, cap3, rfl⟩ := okWide_slice Try.underlying22 (hval 3 22 v3 rfl rfl)
  have k3 := h3
  have lt3 : ∀ x ∈ p3, x.block < W.heap.size := by obtain ⟨m, hm⟩ := k3; exact DataW.trod_lt m _ _ _ hm
  obtain ⟨m3, hm3⟩ := h3
  obtain ⟨s3, ss3, ls3, e3, w3, x3⟩ := open_lst (enc := enc) (W := W) (fuel := m3) (v := .slice a3 len3 cap3) hm3
  obtain ⟨a4, len4, cap4, rfl⟩ := okWide_slice Try.underlying35 (hval 4 35 v4 rfl rfl)
  have k4 := h4
  have lt4 : ∀ x ∈ p4, x.block < W.heap.size := by obtain ⟨m, hm⟩ := k4; exact DataW.trod_lt m _ _ _ hm
  obtain ⟨m4, hm4⟩ := h4
  obtain ⟨s4, ls4, e4, w4, x4⟩ := open_bools (enc := enc) (W := W) (fuel := m4) (v := .slice a4 len4 cap4) hm4
  clear hA0 hval0
  have walk := BV.law7_any s0 s1 s2 s3 s4 ss0 ss1 ss2 ss3 ls0 ls1 ls2 ls3 ls4 W w0 w1 w2 w3 w4 x0 x1 x2 x3 x4
  simp only [Sl.v] at walk
  rw [← e0] at walk
  rw [← e1] at walk
  rw [← e2] at walk
  rw [← e3] at walk
  rw [← e4] at walk
  refine walk.mono fun e W' hp => ?_
  obtain ⟨he, hfr⟩ : e = .returned (.bool true) ∧ Fr (fun _ => False) W W' := hp
  have bel : Below W.heap.size W W' := hfr.toBelow
  subst he
  exact ⟨_, rfl, _, _, _, [], _, [], hW', trodAll_mk1 (shut_bool Try.underlying4 _), (trodAll_cons_mk (Below.trod laidOut (by kernel_rfl) (of_decide_eq_true (by kernel_rfl)) k0 bel lt0) (trodAll_cons_mk (Below.trod laidOut (by kernel_rfl) (of_decide_eq_true (by kernel_rfl)) k1 bel lt1) (trodAll_cons_mk (Below.trod laidOut (by kernel_rfl) (of_decide_eq_true (by kernel_rfl)) k2 bel lt2) (trodAll_cons_mk (Below.trod laidOut (by kernel_rfl) (of_decide_eq_true (by kernel_rfl)) k3 bel lt3) (trodAll_cons_mk (Below.trod laidOut (by kernel_rfl) (of_decide_eq_true (by kernel_rfl)) k4 bel lt4) trodAll_mk0))))), rfl, bel.frame _, fun h => by cases h⟩

theorem over : Rows.fnWritesMakeOnMergesWritesIntoStateRow.holds Try.pinned (OpenSpec.ofChange Rows.fnWritesMakeOnMergesWritesIntoStateSpec) :=
  OpenClaim.holds_of_wide 7 Try.f7 rfl rfl rfl rfl rfl rfl rfl ⟨rfl, rfl, rfl, rfl, rfl⟩ rfl rfl rfl rfl rfl named Try.func7 closed inst wrap
    (fun os started H enc _ => lifted os started H enc)

/-- ████ THE STATEMENT ████ -/
theorem proved : Rows.FnWritesMakeOnMergesWritesIntoStateSaid :=
  over
end Go.Proofs.Qxb6615626a.fnWritesMakeOnMergesWritesIntoState
