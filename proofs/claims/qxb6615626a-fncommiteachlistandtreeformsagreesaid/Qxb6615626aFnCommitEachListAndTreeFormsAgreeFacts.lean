/-
  The closed facts of Rows.fnCommitEachListAndTreeFormsAgreeRow, one declaration each.
-/
import Derived.Test.Qxb6615626aRows
import Derived.ProofKit
import Derived.KernelRfl
namespace Go.Proofs.Qxb6615626a.fnCommitEachListAndTreeFormsAgree
set_option linter.unusedVariables false
set_option maxRecDepth 100000

theorem and_mk {a b : Bool} (h : a = true) (k : b = true) : (a && b) = true := by rw [h, k]; rfl

theorem k0 : (Rows.fnCommitEachListAndTreeFormsAgreeRow.wf (OpenSpec.ofChange Rows.fnCommitEachListAndTreeFormsAgreeSpec)) = true := by kernel_rfl
theorem k1 : (laidOutB Try.prog) = true := by kernel_rfl
theorem k2 : (mapsRowed Try.prog) = true := by kernel_rfl
theorem k3 : (Try.f6.params.all (Try.prog.readableRec ·)) = true := by kernel_rfl
theorem k4 : (namedTie Try.prog Rows.fnCommitEachListAndTreeFormsAgreeRow.named Rows.fnCommitEachListAndTreeFormsAgreeSpec.vars) = true := by kernel_rfl
theorem k5 : ((Rows.fnCommitEachListAndTreeFormsAgreeRow.stops == [])) = true := by kernel_rfl
theorem k6 : ((Try.prog.stops == [])) = true := by kernel_rfl
theorem k7 : ((Rows.fnCommitEachListAndTreeFormsAgreeRow.knobs == [])) = true := by kernel_rfl
theorem k8 : ((Try.prog.stopKnobs == [])) = true := by kernel_rfl
theorem k9 : ((Rows.fnCommitEachListAndTreeFormsAgreeRow.inPlace == Try.prog.inPlace 6)) = true := by kernel_rfl
theorem k10 : ((Rows.fnCommitEachListAndTreeFormsAgreeRow.unfollowed == Try.prog.unfollowed 6)) = true := by kernel_rfl
theorem k11 : ((Rows.fnCommitEachListAndTreeFormsAgreeRow.recurses == Try.prog.recurses 6)) = true := by kernel_rfl
theorem k12 : ((Rows.fnCommitEachListAndTreeFormsAgreeRow.named == Try.prog.varsNamed 6)) = true := by kernel_rfl
theorem k13 : ((Rows.fnCommitEachListAndTreeFormsAgreeRow.maps == (Try.f6.params.toList ++ Rows.fnCommitEachListAndTreeFormsAgreeSpec.plain.varTypes Try.prog).any (Try.prog.mapsRec ·))) = true := by kernel_rfl
theorem k14 : ((Rows.fnCommitEachListAndTreeFormsAgreeRow.ifaces == (Try.f6.params.toList ++ Rows.fnCommitEachListAndTreeFormsAgreeSpec.plain.varTypes Try.prog).any (Try.prog.ifacesRec ·))) = true := by kernel_rfl
theorem k15 : ((Rows.fnCommitEachListAndTreeFormsAgreeRow.mapsOut == Try.prog.mapsAmong Try.f6.resultTypes.toList)) = true := by kernel_rfl
theorem k16 : ((Rows.fnCommitEachListAndTreeFormsAgreeRow.loops == (Try.f6.params.toList ++ Rows.fnCommitEachListAndTreeFormsAgreeSpec.plain.varTypes Try.prog).any (Try.prog.loopsFrom ·))) = true := by kernel_rfl
theorem k17 : ((Rows.fnCommitEachListAndTreeFormsAgreeRow.wideKeys == (Try.f6.params.toList ++ Rows.fnCommitEachListAndTreeFormsAgreeSpec.plain.varTypes Try.prog ++ Try.f6.resultTypes.toList).any (Try.prog.wideKeysFrom ·))) = true := by kernel_rfl
theorem k18 : (Rows.fnCommitEachListAndTreeFormsAgreeSpec.vars.all (Try.prog.varReadable ·)) = true := by kernel_rfl
theorem k19 : (Try.f6.resultTypes.all (fun t => Try.prog.readableRec t && decide (t < Try.prog.types.size))) = true := by kernel_rfl
theorem k20 : ((Rows.fnCommitEachListAndTreeFormsAgreeRow.ifacesOut == Try.f6.resultTypes.toList.any (Try.prog.ifacesRec ·))) = true := by kernel_rfl
theorem k21 : ((Rows.fnCommitEachListAndTreeFormsAgreeRow.loopsOut == Try.f6.resultTypes.toList.any (Try.prog.loopsFrom ·))) = true := by kernel_rfl
theorem k22 : ((Rows.fnCommitEachListAndTreeFormsAgreeRow.plainKeys == Try.prog.plainKeys)) = true := by kernel_rfl
theorem k23 : (Rows.fnCommitEachListAndTreeFormsAgreeRow.shortTexts.isNone) = true := by kernel_rfl
theorem k24 : (Try.prog.stopsHeard) = true := by kernel_rfl
theorem k25 : (Try.prog.mayEnter) = true := by kernel_rfl
theorem k26 : ((Rows.fnCommitEachListAndTreeFormsAgreeRow.lifted == Try.prog.liftsFinal)) = true := by kernel_rfl
theorem k27 : ((Try.prog.make == some Rows.fnCommitEachListAndTreeFormsAgreeRow.make)) = true := by kernel_rfl
theorem k28 : ((Rows.fnCommitEachListAndTreeFormsAgreeRow.kinds == (if Rows.fnCommitEachListAndTreeFormsAgreeRow.domain.isEmpty then [] else Try.f6.params.toList.map fun t => match Try.prog.underlying t with | some (.int k) => some k | _ => none))) = true := by kernel_rfl
theorem k29 : ((Rows.fnCommitEachListAndTreeFormsAgreeRow.pinned == Rows.fnCommitEachListAndTreeFormsAgreeRow.pinnedBy)) = true := by kernel_rfl
theorem k30 : ((Rows.fnCommitEachListAndTreeFormsAgreeRow.veiled == (Try.f6.params.toList ++ Rows.fnCommitEachListAndTreeFormsAgreeSpec.plain.varTypes Try.prog ++ Try.f6.resultTypes.toList).any (Try.prog.veiledRec ·))) = true := by kernel_rfl
theorem k31 : (Rows.fnCommitEachListAndTreeFormsAgreeRow.veiledFits Try.prog Try.f6.params.toList (Try.f6.params.toList ++ Rows.fnCommitEachListAndTreeFormsAgreeSpec.plain.varTypes Try.prog ++ Try.f6.resultTypes.toList)) = true := by kernel_rfl
theorem closed : joinedFacts Try.prog 6 Try.f6 Rows.fnCommitEachListAndTreeFormsAgreeSpec Rows.fnCommitEachListAndTreeFormsAgreeRow = true := by
  unfold joinedFacts
  exact (and_mk (and_mk (and_mk (and_mk (and_mk (and_mk (and_mk (and_mk (and_mk (and_mk (and_mk (and_mk (and_mk (and_mk (and_mk (and_mk (and_mk (and_mk (and_mk (and_mk (and_mk (and_mk (and_mk (and_mk (and_mk (and_mk (and_mk (and_mk (and_mk (and_mk (and_mk k0 k1) k2) k3) k4) k5) k6) k7) k8) k9) k10) k11) k12) k13) k14) k15) k16) k17) k18) k19) k20) k21) k22) k23) k24) k25) k26) k27) k28) k29) k30) k31)

theorem named : Try.prog.funcNamed Rows.fnCommitEachListAndTreeFormsAgreeRow.func = some 6 := by kernel_rfl
theorem inst : Try.f6.isInstance Try.prog Rows.fnCommitEachListAndTreeFormsAgreeRow.origin Rows.fnCommitEachListAndTreeFormsAgreeRow.targs := of_decide_eq_true (by kernel_rfl)
theorem wrap : Try.f6.isWrapper Try.prog Rows.fnCommitEachListAndTreeFormsAgreeRow.wrapper Rows.fnCommitEachListAndTreeFormsAgreeRow.mainSum := by unfold Func.isWrapper; first | (rw [if_pos (by decide +kernel)]; kernel_rfl) | (rw [if_neg (by decide +kernel)]; exact ⟨rfl, rfl⟩)
end Go.Proofs.Qxb6615626a.fnCommitEachListAndTreeFormsAgree
