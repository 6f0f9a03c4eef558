/-
  The closed facts of Rows.fnWritesMakeOnMergesWritesIntoStateRow, one declaration each.
-/
import Derived.Test.Qxb6615626aRows
import Derived.ProofKit
import Derived.KernelRfl
namespace Go.Proofs.Qxb6615626a.fnWritesMakeOnMergesWritesIntoState
set_option linter.unusedVariables false
set_option maxRecDepth 100000

theorem and_mk {a b : Bool} (h : a = true) (k : b = true) : (a && b) = true := by rw [h, k]; rfl

theorem k0 : (Rows.fnWritesMakeOnMergesWritesIntoStateRow.wf (OpenSpec.ofChange Rows.fnWritesMakeOnMergesWritesIntoStateSpec)) = true := by kernel_rfl
theorem k1 : (laidOutB Try.prog) = true := by kernel_rfl
theorem k2 : (mapsRowed Try.prog) = true := by kernel_rfl
theorem k3 : (Try.f7.params.all (Try.prog.readableRec ·)) = true := by kernel_rfl
theorem k4 : (namedTie Try.prog Rows.fnWritesMakeOnMergesWritesIntoStateRow.named Rows.fnWritesMakeOnMergesWritesIntoStateSpec.vars) = true := by kernel_rfl
theorem k5 : ((Rows.fnWritesMakeOnMergesWritesIntoStateRow.stops == [])) = true := by kernel_rfl
theorem k6 : ((Try.prog.stops == [])) = true := by kernel_rfl
theorem k7 : ((Rows.fnWritesMakeOnMergesWritesIntoStateRow.knobs == [])) = true := by kernel_rfl
theorem k8 : ((Try.prog.stopKnobs == [])) = true := by kernel_rfl
theorem k9 : ((Rows.fnWritesMakeOnMergesWritesIntoStateRow.inPlace == Try.prog.inPlace 7)) = true := by kernel_rfl
theorem k10 : ((Rows.fnWritesMakeOnMergesWritesIntoStateRow.unfollowed == Try.prog.unfollowed 7)) = true := by kernel_rfl
theorem k11 : ((Rows.fnWritesMakeOnMergesWritesIntoStateRow.recurses == Try.prog.recurses 7)) = true := by kernel_rfl
theorem k12 : ((Rows.fnWritesMakeOnMergesWritesIntoStateRow.named == Try.prog.varsNamed 7)) = true := by kernel_rfl
theorem k13 : ((Rows.fnWritesMakeOnMergesWritesIntoStateRow.maps == (Try.f7.params.toList ++ Rows.fnWritesMakeOnMergesWritesIntoStateSpec.plain.varTypes Try.prog).any (Try.prog.mapsRec ·))) = true := by kernel_rfl
theorem k14 : ((Rows.fnWritesMakeOnMergesWritesIntoStateRow.ifaces == (Try.f7.params.toList ++ Rows.fnWritesMakeOnMergesWritesIntoStateSpec.plain.varTypes Try.prog).any (Try.prog.ifacesRec ·))) = true := by kernel_rfl
theorem k15 : ((Rows.fnWritesMakeOnMergesWritesIntoStateRow.mapsOut == Try.prog.mapsAmong Try.f7.resultTypes.toList)) = true := by kernel_rfl
theorem k16 : ((Rows.fnWritesMakeOnMergesWritesIntoStateRow.loops == (Try.f7.params.toList ++ Rows.fnWritesMakeOnMergesWritesIntoStateSpec.plain.varTypes Try.prog).any (Try.prog.loopsFrom ·))) = true := by kernel_rfl
theorem k17 : ((Rows.fnWritesMakeOnMergesWritesIntoStateRow.wideKeys == (Try.f7.params.toList ++ Rows.fnWritesMakeOnMergesWritesIntoStateSpec.plain.varTypes Try.prog ++ Try.f7.resultTypes.toList).any (Try.prog.wideKeysFrom ·))) = true := by kernel_rfl
theorem k18 : (Rows.fnWritesMakeOnMergesWritesIntoStateSpec.vars.all (Try.prog.varReadable ·)) = true := by kernel_rfl
theorem k19 : (Try.f7.resultTypes.all (fun t => Try.prog.readableRec t && decide (t < Try.prog.types.size))) = true := by kernel_rfl
theorem k20 : ((Rows.fnWritesMakeOnMergesWritesIntoStateRow.ifacesOut == Try.f7.resultTypes.toList.any (Try.prog.ifacesRec ·))) = true := by kernel_rfl
theorem k21 : ((Rows.fnWritesMakeOnMergesWritesIntoStateRow.loopsOut == Try.f7.resultTypes.toList.any (Try.prog.loopsFrom ·))) = true := by kernel_rfl
theorem k22 : ((Rows.fnWritesMakeOnMergesWritesIntoStateRow.plainKeys == Try.prog.plainKeys)) = true := by kernel_rfl
theorem k23 : (Rows.fnWritesMakeOnMergesWritesIntoStateRow.shortTexts.isNone) = true := by kernel_rfl
theorem k24 : (Try.prog.stopsHeard) = true := by kernel_rfl
theorem k25 : (Try.prog.mayEnter) = true := by kernel_rfl
theorem k26 : ((Rows.fnWritesMakeOnMergesWritesIntoStateRow.lifted == Try.prog.liftsFinal)) = true := by kernel_rfl
theorem k27 : ((Try.prog.make == some Rows.fnWritesMakeOnMergesWritesIntoStateRow.make)) = true := by kernel_rfl
theorem k28 : ((Rows.fnWritesMakeOnMergesWritesIntoStateRow.kinds == (if Rows.fnWritesMakeOnMergesWritesIntoStateRow.domain.isEmpty then [] else Try.f7.params.toList.map fun t => match Try.prog.underlying t with | some (.int k) => some k | _ => none))) = true := by kernel_rfl
theorem k29 : ((Rows.fnWritesMakeOnMergesWritesIntoStateRow.pinned == Rows.fnWritesMakeOnMergesWritesIntoStateRow.pinnedBy)) = true := by kernel_rfl
theorem k30 : ((Rows.fnWritesMakeOnMergesWritesIntoStateRow.veiled == (Try.f7.params.toList ++ Rows.fnWritesMakeOnMergesWritesIntoStateSpec.plain.varTypes Try.prog ++ Try.f7.resultTypes.toList).any (Try.prog.veiledRec ·))) = true := by kernel_rfl
theorem k31 : (Rows.fnWritesMakeOnMergesWritesIntoStateRow.veiledFits Try.prog Try.f7.params.toList (Try.f7.params.toList ++ Rows.fnWritesMakeOnMergesWritesIntoStateSpec.plain.varTypes Try.prog ++ Try.f7.resultTypes.toList)) = true := by kernel_rfl
theorem closed : joinedFacts Try.prog 7 Try.f7 Rows.fnWritesMakeOnMergesWritesIntoStateSpec Rows.fnWritesMakeOnMergesWritesIntoStateRow = true := by
  unfold joinedFacts
  exact (and_mk (and_mk (and_mk (and_mk (and_mk (and_mk (and_mk (and_mk (and_mk (and_mk (and_mk (and_mk (and_mk (and_mk (and_mk (and_mk (and_mk (and_mk (and_mk (and_mk (and_mk (and_mk (and_mk (and_mk (and_mk (and_mk (and_mk (and_mk (and_mk (and_mk (and_mk k0 k1) k2) k3) k4) k5) k6) k7) k8) k9) k10) k11) k12) k13) k14) k15) k16) k17) k18) k19) k20) k21) k22) k23) k24) k25) k26) k27) k28) k29) k30) k31)

theorem named : Try.prog.funcNamed Rows.fnWritesMakeOnMergesWritesIntoStateRow.func = some 7 := by kernel_rfl
theorem inst : Try.f7.isInstance Try.prog Rows.fnWritesMakeOnMergesWritesIntoStateRow.origin Rows.fnWritesMakeOnMergesWritesIntoStateRow.targs := of_decide_eq_true (by kernel_rfl)
theorem wrap : Try.f7.isWrapper Try.prog Rows.fnWritesMakeOnMergesWritesIntoStateRow.wrapper Rows.fnWritesMakeOnMergesWritesIntoStateRow.mainSum := by unfold Func.isWrapper; first | (rw [if_pos (by decide +kernel)]; kernel_rfl) | (rw [if_neg (by decide +kernel)]; exact ⟨rfl, rfl⟩)
end Go.Proofs.Qxb6615626a.fnWritesMakeOnMergesWritesIntoState
