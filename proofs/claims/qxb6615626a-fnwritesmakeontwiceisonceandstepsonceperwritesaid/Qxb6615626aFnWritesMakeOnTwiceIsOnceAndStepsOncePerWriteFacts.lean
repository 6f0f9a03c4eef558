/-
  The closed facts of Rows.fnWritesMakeOnTwiceIsOnceAndStepsOncePerWriteRow, one declaration each.
-/
import Derived.Test.Qxb6615626aRows
import Derived.ProofKit
import Derived.KernelRfl
namespace Go.Proofs.Qxb6615626a.fnWritesMakeOnTwiceIsOnceAndStepsOncePerWrite
set_option linter.unusedVariables false
set_option maxRecDepth 100000

theorem and_mk {a b : Bool} (h : a = true) (k : b = true) : (a && b) = true := by rw [h, k]; rfl

theorem k0 : (Rows.fnWritesMakeOnTwiceIsOnceAndStepsOncePerWriteRow.wf (OpenSpec.ofChange Rows.fnWritesMakeOnTwiceIsOnceAndStepsOncePerWriteSpec)) = true := by kernel_rfl
theorem k1 : (laidOutB Try.prog) = true := by kernel_rfl
theorem k2 : (mapsRowed Try.prog) = true := by kernel_rfl
theorem k3 : (Try.f8.params.all (Try.prog.readableRec ·)) = true := by kernel_rfl
theorem k4 : (namedTie Try.prog Rows.fnWritesMakeOnTwiceIsOnceAndStepsOncePerWriteRow.named Rows.fnWritesMakeOnTwiceIsOnceAndStepsOncePerWriteSpec.vars) = true := by kernel_rfl
theorem k5 : ((Rows.fnWritesMakeOnTwiceIsOnceAndStepsOncePerWriteRow.stops == [])) = true := by kernel_rfl
theorem k6 : ((Try.prog.stops == [])) = true := by kernel_rfl
theorem k7 : ((Rows.fnWritesMakeOnTwiceIsOnceAndStepsOncePerWriteRow.knobs == [])) = true := by kernel_rfl
theorem k8 : ((Try.prog.stopKnobs == [])) = true := by kernel_rfl
theorem k9 : ((Rows.fnWritesMakeOnTwiceIsOnceAndStepsOncePerWriteRow.inPlace == Try.prog.inPlace 8)) = true := by kernel_rfl
theorem k10 : ((Rows.fnWritesMakeOnTwiceIsOnceAndStepsOncePerWriteRow.unfollowed == Try.prog.unfollowed 8)) = true := by kernel_rfl
theorem k11 : ((Rows.fnWritesMakeOnTwiceIsOnceAndStepsOncePerWriteRow.recurses == Try.prog.recurses 8)) = true := by kernel_rfl
theorem k12 : ((Rows.fnWritesMakeOnTwiceIsOnceAndStepsOncePerWriteRow.named == Try.prog.varsNamed 8)) = true := by kernel_rfl
theorem k13 : ((Rows.fnWritesMakeOnTwiceIsOnceAndStepsOncePerWriteRow.maps == (Try.f8.params.toList ++ Rows.fnWritesMakeOnTwiceIsOnceAndStepsOncePerWriteSpec.plain.varTypes Try.prog).any (Try.prog.mapsRec ·))) = true := by kernel_rfl
theorem k14 : ((Rows.fnWritesMakeOnTwiceIsOnceAndStepsOncePerWriteRow.ifaces == (Try.f8.params.toList ++ Rows.fnWritesMakeOnTwiceIsOnceAndStepsOncePerWriteSpec.plain.varTypes Try.prog).any (Try.prog.ifacesRec ·))) = true := by kernel_rfl
theorem k15 : ((Rows.fnWritesMakeOnTwiceIsOnceAndStepsOncePerWriteRow.mapsOut == Try.prog.mapsAmong Try.f8.resultTypes.toList)) = true := by kernel_rfl
theorem k16 : ((Rows.fnWritesMakeOnTwiceIsOnceAndStepsOncePerWriteRow.loops == (Try.f8.params.toList ++ Rows.fnWritesMakeOnTwiceIsOnceAndStepsOncePerWriteSpec.plain.varTypes Try.prog).any (Try.prog.loopsFrom ·))) = true := by kernel_rfl
theorem k17 : ((Rows.fnWritesMakeOnTwiceIsOnceAndStepsOncePerWriteRow.wideKeys == (Try.f8.params.toList ++ Rows.fnWritesMakeOnTwiceIsOnceAndStepsOncePerWriteSpec.plain.varTypes Try.prog ++ Try.f8.resultTypes.toList).any (Try.prog.wideKeysFrom ·))) = true := by kernel_rfl
theorem k18 : (Rows.fnWritesMakeOnTwiceIsOnceAndStepsOncePerWriteSpec.vars.all (Try.prog.varReadable ·)) = true := by kernel_rfl
theorem k19 : (Try.f8.resultTypes.all (fun t => Try.prog.readableRec t && decide (t < Try.prog.types.size))) = true := by kernel_rfl
theorem k20 : ((Rows.fnWritesMakeOnTwiceIsOnceAndStepsOncePerWriteRow.ifacesOut == Try.f8.resultTypes.toList.any (Try.prog.ifacesRec ·))) = true := by kernel_rfl
theorem k21 : ((Rows.fnWritesMakeOnTwiceIsOnceAndStepsOncePerWriteRow.loopsOut == Try.f8.resultTypes.toList.any (Try.prog.loopsFrom ·))) = true := by kernel_rfl
theorem k22 : ((Rows.fnWritesMakeOnTwiceIsOnceAndStepsOncePerWriteRow.plainKeys == Try.prog.plainKeys)) = true := by kernel_rfl
theorem k23 : (Rows.fnWritesMakeOnTwiceIsOnceAndStepsOncePerWriteRow.shortTexts.isNone) = true := by kernel_rfl
theorem k24 : (Try.prog.stopsHeard) = true := by kernel_rfl
theorem k25 : (Try.prog.mayEnter) = true := by kernel_rfl
theorem k26 : ((Rows.fnWritesMakeOnTwiceIsOnceAndStepsOncePerWriteRow.lifted == Try.prog.liftsFinal)) = true := by kernel_rfl
theorem k27 : ((Try.prog.make == some Rows.fnWritesMakeOnTwiceIsOnceAndStepsOncePerWriteRow.make)) = true := by kernel_rfl
theorem k28 : ((Rows.fnWritesMakeOnTwiceIsOnceAndStepsOncePerWriteRow.kinds == (if Rows.fnWritesMakeOnTwiceIsOnceAndStepsOncePerWriteRow.domain.isEmpty then [] else Try.f8.params.toList.map fun t => match Try.prog.underlying t with | some (.int k) => some k | _ => none))) = true := by kernel_rfl
theorem k29 : ((Rows.fnWritesMakeOnTwiceIsOnceAndStepsOncePerWriteRow.pinned == Rows.fnWritesMakeOnTwiceIsOnceAndStepsOncePerWriteRow.pinnedBy)) = true := by kernel_rfl
theorem k30 : ((Rows.fnWritesMakeOnTwiceIsOnceAndStepsOncePerWriteRow.veiled == (Try.f8.params.toList ++ Rows.fnWritesMakeOnTwiceIsOnceAndStepsOncePerWriteSpec.plain.varTypes Try.prog ++ Try.f8.resultTypes.toList).any (Try.prog.veiledRec ·))) = true := by kernel_rfl
theorem k31 : (Rows.fnWritesMakeOnTwiceIsOnceAndStepsOncePerWriteRow.veiledFits Try.prog Try.f8.params.toList (Try.f8.params.toList ++ Rows.fnWritesMakeOnTwiceIsOnceAndStepsOncePerWriteSpec.plain.varTypes Try.prog ++ Try.f8.resultTypes.toList)) = true := by kernel_rfl
theorem closed : joinedFacts Try.prog 8 Try.f8 Rows.fnWritesMakeOnTwiceIsOnceAndStepsOncePerWriteSpec Rows.fnWritesMakeOnTwiceIsOnceAndStepsOncePerWriteRow = true := by
  unfold joinedFacts
  exact (and_mk (and_mk (and_mk (and_mk (and_mk (and_mk (and_mk (and_mk (and_mk (and_mk (and_mk (and_mk (and_mk (and_mk (and_mk (and_mk (and_mk (and_mk (and_mk (and_mk (and_mk (and_mk (and_mk (and_mk (and_mk (and_mk (and_mk (and_mk (and_mk (and_mk (and_mk k0 k1) k2) k3) k4) k5) k6) k7) k8) k9) k10) k11) k12) k13) k14) k15) k16) k17) k18) k19) k20) k21) k22) k23) k24) k25) k26) k27) k28) k29) k30) k31)

theorem named : Try.prog.funcNamed Rows.fnWritesMakeOnTwiceIsOnceAndStepsOncePerWriteRow.func = some 8 := by kernel_rfl
theorem inst : Try.f8.isInstance Try.prog Rows.fnWritesMakeOnTwiceIsOnceAndStepsOncePerWriteRow.origin Rows.fnWritesMakeOnTwiceIsOnceAndStepsOncePerWriteRow.targs := of_decide_eq_true (by kernel_rfl)
theorem wrap : Try.f8.isWrapper Try.prog Rows.fnWritesMakeOnTwiceIsOnceAndStepsOncePerWriteRow.wrapper Rows.fnWritesMakeOnTwiceIsOnceAndStepsOncePerWriteRow.mainSum := by unfold Func.isWrapper; first | (rw [if_pos (by decide +kernel)]; kernel_rfl) | (rw [if_neg (by decide +kernel)]; exact ⟨rfl, rfl⟩)
end Go.Proofs.Qxb6615626a.fnWritesMakeOnTwiceIsOnceAndStepsOncePerWrite
