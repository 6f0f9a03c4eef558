/-
  The closed facts of Rows.fnRangeSetEachCoversExactlyTheKeysPutInRow, one declaration each.
-/
import Derived.Test.Qxb6615626aRows
import Derived.ProofKit
import Derived.KernelRfl
namespace Go.Proofs.Qxb6615626a.fnRangeSetEachCoversExactlyTheKeysPutIn
set_option linter.unusedVariables false
set_option maxRecDepth 100000

theorem and_mk {a b : Bool} (h : a = true) (k : b = true) : (a && b) = true := by rw [h, k]; rfl

theorem k0 : (Rows.fnRangeSetEachCoversExactlyTheKeysPutInRow.wf (OpenSpec.ofChange Rows.fnRangeSetEachCoversExactlyTheKeysPutInSpec)) = true := by kernel_rfl
theorem k1 : (laidOutB Try.prog) = true := by kernel_rfl
theorem k2 : (mapsRowed Try.prog) = true := by kernel_rfl
theorem k3 : (Try.f4.params.all (Try.prog.readableRec ·)) = true := by kernel_rfl
theorem k4 : (namedTie Try.prog Rows.fnRangeSetEachCoversExactlyTheKeysPutInRow.named Rows.fnRangeSetEachCoversExactlyTheKeysPutInSpec.vars) = true := by kernel_rfl
theorem k5 : ((Rows.fnRangeSetEachCoversExactlyTheKeysPutInRow.stops == [])) = true := by kernel_rfl
theorem k6 : ((Try.prog.stops == [])) = true := by kernel_rfl
theorem k7 : ((Rows.fnRangeSetEachCoversExactlyTheKeysPutInRow.knobs == [])) = true := by kernel_rfl
theorem k8 : ((Try.prog.stopKnobs == [])) = true := by kernel_rfl
theorem k9 : ((Rows.fnRangeSetEachCoversExactlyTheKeysPutInRow.inPlace == Try.prog.inPlace 4)) = true := by kernel_rfl
theorem k10 : ((Rows.fnRangeSetEachCoversExactlyTheKeysPutInRow.unfollowed == Try.prog.unfollowed 4)) = true := by kernel_rfl
theorem k11 : ((Rows.fnRangeSetEachCoversExactlyTheKeysPutInRow.recurses == Try.prog.recurses 4)) = true := by kernel_rfl
theorem k12 : ((Rows.fnRangeSetEachCoversExactlyTheKeysPutInRow.named == Try.prog.varsNamed 4)) = true := by kernel_rfl
theorem k13 : ((Rows.fnRangeSetEachCoversExactlyTheKeysPutInRow.maps == (Try.f4.params.toList ++ Rows.fnRangeSetEachCoversExactlyTheKeysPutInSpec.plain.varTypes Try.prog).any (Try.prog.mapsRec ·))) = true := by kernel_rfl
theorem k14 : ((Rows.fnRangeSetEachCoversExactlyTheKeysPutInRow.ifaces == (Try.f4.params.toList ++ Rows.fnRangeSetEachCoversExactlyTheKeysPutInSpec.plain.varTypes Try.prog).any (Try.prog.ifacesRec ·))) = true := by kernel_rfl
theorem k15 : ((Rows.fnRangeSetEachCoversExactlyTheKeysPutInRow.mapsOut == Try.prog.mapsAmong Try.f4.resultTypes.toList)) = true := by kernel_rfl
theorem k16 : ((Rows.fnRangeSetEachCoversExactlyTheKeysPutInRow.loops == (Try.f4.params.toList ++ Rows.fnRangeSetEachCoversExactlyTheKeysPutInSpec.plain.varTypes Try.prog).any (Try.prog.loopsFrom ·))) = true := by kernel_rfl
theorem k17 : ((Rows.fnRangeSetEachCoversExactlyTheKeysPutInRow.wideKeys == (Try.f4.params.toList ++ Rows.fnRangeSetEachCoversExactlyTheKeysPutInSpec.plain.varTypes Try.prog ++ Try.f4.resultTypes.toList).any (Try.prog.wideKeysFrom ·))) = true := by kernel_rfl
theorem k18 : (Rows.fnRangeSetEachCoversExactlyTheKeysPutInSpec.vars.all (Try.prog.varReadable ·)) = true := by kernel_rfl
theorem k19 : (Try.f4.resultTypes.all (fun t => Try.prog.readableRec t && decide (t < Try.prog.types.size))) = true := by kernel_rfl
theorem k20 : ((Rows.fnRangeSetEachCoversExactlyTheKeysPutInRow.ifacesOut == Try.f4.resultTypes.toList.any (Try.prog.ifacesRec ·))) = true := by kernel_rfl
theorem k21 : ((Rows.fnRangeSetEachCoversExactlyTheKeysPutInRow.loopsOut == Try.f4.resultTypes.toList.any (Try.prog.loopsFrom ·))) = true := by kernel_rfl
theorem k22 : ((Rows.fnRangeSetEachCoversExactlyTheKeysPutInRow.plainKeys == Try.prog.plainKeys)) = true := by kernel_rfl
theorem k23 : (Rows.fnRangeSetEachCoversExactlyTheKeysPutInRow.shortTexts.isNone) = true := by kernel_rfl
theorem k24 : (Try.prog.stopsHeard) = true := by kernel_rfl
theorem k25 : (Try.prog.mayEnter) = true := by kernel_rfl
theorem k26 : ((Rows.fnRangeSetEachCoversExactlyTheKeysPutInRow.lifted == Try.prog.liftsFinal)) = true := by kernel_rfl
theorem k27 : ((Try.prog.make == some Rows.fnRangeSetEachCoversExactlyTheKeysPutInRow.make)) = true := by kernel_rfl
theorem k28 : ((Rows.fnRangeSetEachCoversExactlyTheKeysPutInRow.kinds == (if Rows.fnRangeSetEachCoversExactlyTheKeysPutInRow.domain.isEmpty then [] else Try.f4.params.toList.map fun t => match Try.prog.underlying t with | some (.int k) => some k | _ => none))) = true := by kernel_rfl
theorem k29 : ((Rows.fnRangeSetEachCoversExactlyTheKeysPutInRow.pinned == Rows.fnRangeSetEachCoversExactlyTheKeysPutInRow.pinnedBy)) = true := by kernel_rfl
theorem k30 : ((Rows.fnRangeSetEachCoversExactlyTheKeysPutInRow.veiled == (Try.f4.params.toList ++ Rows.fnRangeSetEachCoversExactlyTheKeysPutInSpec.plain.varTypes Try.prog ++ Try.f4.resultTypes.toList).any (Try.prog.veiledRec ·))) = true := by kernel_rfl
theorem k31 : (Rows.fnRangeSetEachCoversExactlyTheKeysPutInRow.veiledFits Try.prog Try.f4.params.toList (Try.f4.params.toList ++ Rows.fnRangeSetEachCoversExactlyTheKeysPutInSpec.plain.varTypes Try.prog ++ Try.f4.resultTypes.toList)) = true := by kernel_rfl
theorem closed : joinedFacts Try.prog 4 Try.f4 Rows.fnRangeSetEachCoversExactlyTheKeysPutInSpec Rows.fnRangeSetEachCoversExactlyTheKeysPutInRow = true := by
  unfold joinedFacts
  exact (and_mk (and_mk (and_mk (and_mk (and_mk (and_mk (and_mk (and_mk (and_mk (and_mk (and_mk (and_mk (and_mk (and_mk (and_mk (and_mk (and_mk (and_mk (and_mk (and_mk (and_mk (and_mk (and_mk (and_mk (and_mk (and_mk (and_mk (and_mk (and_mk (and_mk (and_mk k0 k1) k2) k3) k4) k5) k6) k7) k8) k9) k10) k11) k12) k13) k14) k15) k16) k17) k18) k19) k20) k21) k22) k23) k24) k25) k26) k27) k28) k29) k30) k31)

theorem named : Try.prog.funcNamed Rows.fnRangeSetEachCoversExactlyTheKeysPutInRow.func = some 4 := by kernel_rfl
theorem inst : Try.f4.isInstance Try.prog Rows.fnRangeSetEachCoversExactlyTheKeysPutInRow.origin Rows.fnRangeSetEachCoversExactlyTheKeysPutInRow.targs := of_decide_eq_true (by kernel_rfl)
theorem wrap : Try.f4.isWrapper Try.prog Rows.fnRangeSetEachCoversExactlyTheKeysPutInRow.wrapper Rows.fnRangeSetEachCoversExactlyTheKeysPutInRow.mainSum := by unfold Func.isWrapper; first | (rw [if_pos (by decide +kernel)]; kernel_rfl) | (rw [if_neg (by decide +kernel)]; exact ⟨rfl, rfl⟩)
end Go.Proofs.Qxb6615626a.fnRangeSetEachCoversExactlyTheKeysPutIn
