/-
  settle: its region 10 by itself (V by the namespace).
-/
import Derived.Test.Qxb6615626aCur2B
import Derived.Test.Qxb6615626aTill
namespace Go.Proofs.Qxb6615626a.BV
open Go.RowKit
set_option linter.unusedVariables false

def regionOf (n : Nat) : Code → Option Code
  | .region id ops b => if id = n then some (.region id ops b) else none
  | .loop c => regionOf n c
  | .seq a b => match regionOf n a with
    | some c => some c
    | none => regionOf n b
  | .block _ c => regionOf n c
  | .scope c => regionOf n c
  | .cond _ a b => match regionOf n a with
    | some c => some c
    | none => regionOf n b
  | _ => none

noncomputable def settle10 : Code := (Try.f78.body.bind (regionOf 10)).getD .skip

set_option maxRecDepth 100000 in
set_option maxHeartbeats 4000000 in
theorem settle_region10 (W : World) (Q : Exit → Act → World → Prop) (cb g cap t7 j Lnb i rb Icb n cc Mnb : Nat) (q1 q2 q4 q5 q6 q7 q8 q9 q10 q11 q12 q13 q14 q15 q16 q17 q18 q19 q20 q21 q22 q23 q24 q25 q26 q27 q28 q29 q30 q31 q32 q33 q34 q35 q36 q37 q38 q39 q40 q41 q42 q43 q44 q45 q46 q47 q48 q49 q50 q51 q52 q53 q54 q55 q56 q57 q58 q59 q60 q61 q62 q63 q64 q65 q66 q67 q68 q69 q70 q71 q72 q73 q74 q75 q76 q77 q78 q79 q80 q81 q82 q83 q84 q85 q86 q87 q88 q89 q90 q91 q92 q93 q94 q95 q96 q97 q98 q99 q100 q101 q102 q103 q104 q105 q106 q107 q108 q109 q110 q111 q112 q113 q114 q115 q116 q117 : Value)
    (c0 : W.cell? ⟨cb, 0, none⟩ = some (.slice (some ⟨g, 0, none⟩) 1 cap)) (t0 : W.cell? ⟨t7, 0, none⟩ = some (.pointer (some ⟨rb, 0, none⟩))) (t1 : W.cell? ⟨t7, 1, none⟩ = some (.int .i64 ((j : Int) + 1)))
    (d4 : W.cell? ⟨rb, 4, none⟩ = some (.slice (some ⟨Icb, 0, none⟩) n cc)) (kd : W.cell? ⟨Icb, j + 1, none⟩ = some (.pointer (some ⟨Mnb, 0, none⟩)))
    (x2 : W.cell? ⟨g, 2, none⟩ = some (.pointer (some ⟨Lnb, 0, none⟩))) (x3 : W.cell? ⟨g, 3, none⟩ = some (.int .i64 i)) (z2 : W.frozen? ⟨g, 2, none⟩ = false) (z3 : W.frozen? ⟨g, 3, none⟩ = false) (cf : W.frozen? ⟨cb, 0, none⟩ = false)
    (hcap : 2 ≤ cap) (hgc : g ≠ cb) (h7c : t7 ≠ cb) (h7g : t7 ≠ g) (hgl : g < W.heap.size) (hcl : cb < W.heap.size) (hIlt : rb < W.heap.size) (hIclt : Icb < W.heap.size) (h7l : t7 < W.heap.size) (hjj : (0 : Int) ≤ (j : Int) + 1) (hjc : (j : Int) + 1 < (n : Int)) 
    (hgr : g ≠ rb) (hgi : g ≠ Icb)
    (hQ : ∀ p98 p99 p100 p101 p102 p103 p104 p105 p106 p107 p108 p109 p110 p111 p112 p113 p114 p115 p116 : Value, Q .normal ⟨#[.pointer (some ⟨cb, 0, none⟩), q1, q2, .pointer (some ⟨t7, 0, none⟩), q4, q5, q6, q7, q8, q9, q10, q11, q12, q13, q14, q15, q16, q17, q18, q19, q20, q21, q22, q23, q24, q25, q26, q27, q28, q29, q30, q31, q32, q33, q34, q35, q36, q37, q38, q39, q40, q41, q42, q43, q44, q45, q46, q47, q48, q49, q50, q51, q52, q53, q54, q55, q56, q57, q58, q59, q60, q61, q62, q63, q64, q65, q66, q67, q68, q69, q70, q71, q72, q73, q74, q75, q76, q77, q78, q79, q80, q81, q82, q83, q84, q85, q86, q87, q88, q89, q90, q91, q92, q93, q94, q95, q96, q97, p98, p99, p100, p101, p102, p103, p104, p105, p106, p107, p108, p109, p110, p111, p112, p113, p114, p115, p116, q117], []⟩ ((((W.setCell ⟨g, 2, none⟩ (.pointer (some ⟨Mnb, 0, none⟩))).setCell ⟨g, 3, none⟩ (.int .i64 0)).setCell ⟨cb, 0, none⟩ (.slice (some ⟨g, 0, none⟩) 2 cap)).alloc (.cells #[.pointer (some ⟨Mnb, 0, none⟩), .int .i64 0] 131)).drew) :
    Code.wp Try.prog settle10 Q ⟨#[.pointer (some ⟨cb, 0, none⟩), q1, q2, .pointer (some ⟨t7, 0, none⟩), q4, q5, q6, q7, q8, q9, q10, q11, q12, q13, q14, q15, q16, q17, q18, q19, q20, q21, q22, q23, q24, q25, q26, q27, q28, q29, q30, q31, q32, q33, q34, q35, q36, q37, q38, q39, q40, q41, q42, q43, q44, q45, q46, q47, q48, q49, q50, q51, q52, q53, q54, q55, q56, q57, q58, q59, q60, q61, q62, q63, q64, q65, q66, q67, q68, q69, q70, q71, q72, q73, q74, q75, q76, q77, q78, q79, q80, q81, q82, q83, q84, q85, q86, q87, q88, q89, q90, q91, q92, q93, q94, q95, q96, q97, q98, q99, q100, q101, q102, q103, q104, q105, q106, q107, q108, q109, q110, q111, q112, q113, q114, q115, q116, q117], []⟩ W := by
  conv => arg 2; whnf
  refine wp_region_noPanic ?_
  refine wp_region_till 19 (fun w' => w'.cell? ⟨cb, 0, none⟩ = some (.slice (some ⟨g, 0, none⟩) 1 cap) ∧ w'.cell? ⟨t7, 0, none⟩ = some (.pointer (some ⟨rb, 0, none⟩)) ∧ w'.cell? ⟨t7, 1, none⟩ = some (.int .i64 ((j : Int) + 1)) ∧ w'.cell? ⟨rb, 4, none⟩ = some (.slice (some ⟨Icb, 0, none⟩) n cc) ∧ w'.cell? ⟨Icb, j + 1, none⟩ = some (.pointer (some ⟨Mnb, 0, none⟩))) (by kernel_rfl) (by go_keep) (fun hHeld => ?_)
  refine wpTill_take (v := ?v0) 0 20 rfl (by kernel_rfl) (by kernel_rfl) (by kernel_rfl) (by kernel_rfl) (by kernel_rfl) (by kernel_rfl) (fun _ _ _ h => h) (by assumption) (Or.inl ⟨by rfl, ?y0⟩) ?r0
  case y0 => (intro w hSw; (try dsimp only at hSw); go_simp <;> with_reducible rfl)
  simp only [Act.put, List.setIfInBounds_toArray, List.set_cons_zero, List.set_cons_succ]
  refine wpTill_take (v := ?v1) 1 20 rfl (by kernel_rfl) (by kernel_rfl) (by kernel_rfl) (by kernel_rfl) (by kernel_rfl) (by kernel_rfl) (fun _ _ _ h => h) (by assumption) (Or.inl ⟨by rfl, ?y1⟩) ?r1
  case y1 => (intro w hSw; (try dsimp only at hSw); go_simp <;> with_reducible rfl)
  simp only [Act.put, List.setIfInBounds_toArray, List.set_cons_zero, List.set_cons_succ]
  refine wpTill_take (v := ?v2) 2 20 rfl (by kernel_rfl) (by kernel_rfl) (by kernel_rfl) (by kernel_rfl) (by kernel_rfl) (by kernel_rfl) (fun _ _ _ h => h) (by assumption) (Or.inl ⟨by rfl, ?y2⟩) ?r2
  case y2 => (intro w hSw; (try dsimp only at hSw); go_simp <;> with_reducible rfl)
  simp only [Act.put, List.setIfInBounds_toArray, List.set_cons_zero, List.set_cons_succ]
  refine wpTill_take (v := ?v3) 3 20 rfl (by kernel_rfl) (by kernel_rfl) (by kernel_rfl) (by kernel_rfl) (by kernel_rfl) (by kernel_rfl) (fun _ _ _ h => h) (by assumption) (Or.inl ⟨by rfl, ?y3⟩) ?r3
  case y3 => (intro w hSw; (try dsimp only at hSw); go_simp <;> with_reducible rfl)
  simp only [Act.put, List.setIfInBounds_toArray, List.set_cons_zero, List.set_cons_succ]
  refine wpTill_take (v := ?v4) 4 20 rfl (by kernel_rfl) (by kernel_rfl) (by kernel_rfl) (by kernel_rfl) (by kernel_rfl) (by kernel_rfl) (fun _ _ _ h => h) (by assumption) (Or.inl ⟨by rfl, ?y4⟩) ?r4
  case y4 => (intro w hSw; (try dsimp only at hSw); go_simp <;> with_reducible rfl)
  simp only [Act.put, List.setIfInBounds_toArray, List.set_cons_zero, List.set_cons_succ]
  refine wpTill_take (v := ?v5) 5 20 rfl (by kernel_rfl) (by kernel_rfl) (by kernel_rfl) (by kernel_rfl) (by kernel_rfl) (by kernel_rfl) (fun _ _ _ h => h) (by assumption) (Or.inl ⟨by rfl, ?y5⟩) ?r5
  case y5 => (intro w hSw; (try dsimp only at hSw); go_simp <;> with_reducible rfl)
  simp only [Act.put, List.setIfInBounds_toArray, List.set_cons_zero, List.set_cons_succ]
  refine wpTill_take (v := ?v6) 6 20 rfl (by kernel_rfl) (by kernel_rfl) (by kernel_rfl) (by kernel_rfl) (by kernel_rfl) (by kernel_rfl) (fun _ _ _ h => h) (by assumption) (Or.inl ⟨by rfl, ?y6⟩) ?r6
  case y6 => (intro w hSw; (try dsimp only at hSw); go_simp <;> with_reducible rfl)
  simp only [Act.put, List.setIfInBounds_toArray, List.set_cons_zero, List.set_cons_succ]
  refine wpTill_take (v := ?v7) 7 20 rfl (by kernel_rfl) (by kernel_rfl) (by kernel_rfl) (by kernel_rfl) (by kernel_rfl) (by kernel_rfl) (fun _ _ _ h => h) (by assumption) (Or.inl ⟨by rfl, ?y7⟩) ?r7
  case y7 => (intro w hSw; (try dsimp only at hSw); go_simp <;> with_reducible rfl)
  simp only [Act.put, List.setIfInBounds_toArray, List.set_cons_zero, List.set_cons_succ]
  refine wpTill_take (v := ?v8) 8 20 rfl (by kernel_rfl) (by kernel_rfl) (by kernel_rfl) (by kernel_rfl) (by kernel_rfl) (by kernel_rfl) (fun _ _ _ h => h) (by assumption) (Or.inl ⟨by rfl, ?y8⟩) ?r8
  case y8 => (intro w hSw; (try dsimp only at hSw); go_simp <;> with_reducible rfl)
  simp only [Act.put, List.setIfInBounds_toArray, List.set_cons_zero, List.set_cons_succ]
  refine wpTill_take (v := ?v9) 9 20 rfl (by kernel_rfl) (by kernel_rfl) (by kernel_rfl) (by kernel_rfl) (by kernel_rfl) (by kernel_rfl) (fun _ _ _ h => h) (by assumption) (Or.inl ⟨by rfl, ?y9⟩) ?r9
  case y9 => (intro w hSw; (try dsimp only at hSw); go_simp <;> with_reducible rfl)
  simp only [Act.put, List.setIfInBounds_toArray, List.set_cons_zero, List.set_cons_succ]
  refine wpTill_take (v := ?v10) 10 20 rfl (by kernel_rfl) (by kernel_rfl) (by kernel_rfl) (by kernel_rfl) (by kernel_rfl) (by kernel_rfl) (fun _ _ _ h => h) (by assumption) (Or.inl ⟨by rfl, ?y10⟩) ?r10
  case y10 => (intro w hSw; (try dsimp only at hSw); go_simp <;> with_reducible rfl)
  simp only [Act.put, List.setIfInBounds_toArray, List.set_cons_zero, List.set_cons_succ]
  refine wpTill_take (v := ?v11) 11 20 rfl (by kernel_rfl) (by kernel_rfl) (by kernel_rfl) (by kernel_rfl) (by kernel_rfl) (by kernel_rfl) (fun _ _ _ h => h) (by assumption) (Or.inl ⟨by rfl, ?y11⟩) ?r11
  case y11 => (intro w hSw; (try dsimp only at hSw); go_simp <;> with_reducible rfl)
  simp only [Act.put, List.setIfInBounds_toArray, List.set_cons_zero, List.set_cons_succ]
  refine wpTill_take (v := ?v12) 12 20 rfl (by kernel_rfl) (by kernel_rfl) (by kernel_rfl) (by kernel_rfl) (by kernel_rfl) (by kernel_rfl) (fun _ _ _ h => h) (by assumption) (Or.inl ⟨by rfl, ?y12⟩) ?r12
  case y12 => (intro w hSw; (try dsimp only at hSw); go_simp <;> with_reducible rfl)
  simp only [Act.put, List.setIfInBounds_toArray, List.set_cons_zero, List.set_cons_succ]
  refine wpTill_take (v := ?v13) 13 20 rfl (by kernel_rfl) (by kernel_rfl) (by kernel_rfl) (by kernel_rfl) (by kernel_rfl) (by kernel_rfl) (fun _ _ _ h => h) (by assumption) (Or.inl ⟨by rfl, ?y13⟩) ?r13
  case y13 => (intro w hSw; (try dsimp only at hSw); go_simp <;> with_reducible rfl)
  simp only [Act.put, List.setIfInBounds_toArray, List.set_cons_zero, List.set_cons_succ]
  refine wpTill_take (v := ?v14) 14 20 rfl (by kernel_rfl) (by kernel_rfl) (by kernel_rfl) (by kernel_rfl) (by kernel_rfl) (by kernel_rfl) (fun _ _ _ h => h) (by assumption) (Or.inl ⟨by rfl, ?y14⟩) ?r14
  case y14 => (intro w hSw; (try dsimp only at hSw); go_simp <;> with_reducible rfl)
  simp only [Act.put, List.setIfInBounds_toArray, List.set_cons_zero, List.set_cons_succ]
  have hg7 : g ≠ t7 := fun e => h7g e.symm
  have hjn : (W.heap.size : Nat) ≠ cb := by omega
  have hjg : (W.heap.size : Nat) ≠ g := by omega
  refine wpTill_one 15 rfl (by kernel_rfl) (by kernel_rfl) (fun K hK => ?_)
  go_simp
  refine hK.out _ _ ?s15 (fun hHeld => ?r15)
  case s15 => go_keep
  clear hK K
  try simp only [Act.put, List.setIfInBounds_toArray, List.set_cons_zero, List.set_cons_succ]
  refine wpTill_one 16 rfl (by kernel_rfl) (by kernel_rfl) (fun K hK => ?_)
  go_simp
  refine hK.out _ _ ?s16 (fun hHeld => ?r16)
  case s16 => go_keep
  clear hK K
  try simp only [Act.put, List.setIfInBounds_toArray, List.set_cons_zero, List.set_cons_succ]
  refine wpTill_take (v := ?v17) 17 20 rfl (by kernel_rfl) (by kernel_rfl) (by kernel_rfl) (by kernel_rfl) (by kernel_rfl) (by kernel_rfl) (fun _ _ _ h => h) (by assumption) (Or.inl ⟨by rfl, ?y17⟩) ?r17
  case y17 => (intro w hSw; (try dsimp only at hSw); go_simp <;> with_reducible rfl)
  simp only [Act.put, List.setIfInBounds_toArray, List.set_cons_zero, List.set_cons_succ]
  refine wpTill_take (v := ?v18) 18 20 rfl (by kernel_rfl) (by kernel_rfl) (by kernel_rfl) (by kernel_rfl) (by kernel_rfl) (by kernel_rfl) (fun _ _ _ h => h) (by assumption) (Or.inl ⟨by rfl, ?y18⟩) ?r18
  case y18 => (intro w hSw; (try dsimp only at hSw); go_simp <;> with_reducible rfl)
  simp only [Act.put, List.setIfInBounds_toArray, List.set_cons_zero, List.set_cons_succ]
  refine wpTill_key rfl (by kernel_rfl) (fun K hK => ?_)
  go_simp
  refine hK.out _ _ ?_
  clear hK K
  refine wpAny_end (by kernel_rfl) ?_ _
  refine NoPanic.normal ?_
  exact hQ _ _ _ _ _ _ _ _ _ _ _ _ _ _ _ _ _ _ _
end Go.Proofs.Qxb6615626a.BV
