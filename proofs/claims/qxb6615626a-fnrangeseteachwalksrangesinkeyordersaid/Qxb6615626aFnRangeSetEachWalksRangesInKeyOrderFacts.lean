/-
  The closed facts of Rows.fnRangeSetEachWalksRangesInKeyOrderRow, one declaration each.
-/
import Derived.Test.Qxb6615626aRows
import Derived.ProofKit
import Derived.KernelRfl
namespace Go.Proofs.Qxb6615626a.fnRangeSetEachWalksRangesInKeyOrder
set_option linter.unusedVariables false
set_option maxRecDepth 100000

theorem and_mk {a b : Bool} (h : a = true) (k : b = true) : (a && b) = true := by rw [h, k]; rfl

theorem k0 : (Rows.fnRangeSetEachWalksRangesInKeyOrderRow.wf (OpenSpec.ofChange Rows.fnRangeSetEachWalksRangesInKeyOrderSpec)) = true := by kernel_rfl
theorem k1 : (laidOutB Try.prog) = true := by kernel_rfl
theorem k2 : (mapsRowed Try.prog) = true := by kernel_rfl
theorem k3 : (Try.f3.params.all (Try.prog.readableRec ·)) = true := by kernel_rfl
theorem k4 : (namedTie Try.prog Rows.fnRangeSetEachWalksRangesInKeyOrderRow.named Rows.fnRangeSetEachWalksRangesInKeyOrderSpec.vars) = true := by kernel_rfl
theorem k5 : ((Rows.fnRangeSetEachWalksRangesInKeyOrderRow.stops == [])) = true := by kernel_rfl
theorem k6 : ((Try.prog.stops == [])) = true := by kernel_rfl
theorem k7 : ((Rows.fnRangeSetEachWalksRangesInKeyOrderRow.knobs == [])) = true := by kernel_rfl
theorem k8 : ((Try.prog.stopKnobs == [])) = true := by kernel_rfl
theorem k9 : ((Rows.fnRangeSetEachWalksRangesInKeyOrderRow.inPlace == Try.prog.inPlace 3)) = true := by kernel_rfl
theorem k10 : ((Rows.fnRangeSetEachWalksRangesInKeyOrderRow.unfollowed == Try.prog.unfollowed 3)) = true := by kernel_rfl
theorem k11 : ((Rows.fnRangeSetEachWalksRangesInKeyOrderRow.recurses == Try.prog.recurses 3)) = true := by kernel_rfl
theorem k12 : ((Rows.fnRangeSetEachWalksRangesInKeyOrderRow.named == Try.prog.varsNamed 3)) = true := by kernel_rfl
theorem k13 : ((Rows.fnRangeSetEachWalksRangesInKeyOrderRow.maps == (Try.f3.params.toList ++ Rows.fnRangeSetEachWalksRangesInKeyOrderSpec.plain.varTypes Try.prog).any (Try.prog.mapsRec ·))) = true := by kernel_rfl
theorem k14 : ((Rows.fnRangeSetEachWalksRangesInKeyOrderRow.ifaces == (Try.f3.params.toList ++ Rows.fnRangeSetEachWalksRangesInKeyOrderSpec.plain.varTypes Try.prog).any (Try.prog.ifacesRec ·))) = true := by kernel_rfl
theorem k15 : ((Rows.fnRangeSetEachWalksRangesInKeyOrderRow.mapsOut == Try.prog.mapsAmong Try.f3.resultTypes.toList)) = true := by kernel_rfl
theorem k16 : ((Rows.fnRangeSetEachWalksRangesInKeyOrderRow.loops == (Try.f3.params.toList ++ Rows.fnRangeSetEachWalksRangesInKeyOrderSpec.plain.varTypes Try.prog).any (Try.prog.loopsFrom ·))) = true := by kernel_rfl
theorem k17 : ((Rows.fnRangeSetEachWalksRangesInKeyOrderRow.wideKeys == (Try.f3.params.toList ++ Rows.fnRangeSetEachWalksRangesInKeyOrderSpec.plain.varTypes Try.prog ++ Try.f3.resultTypes.toList).any (Try.prog.wideKeysFrom ·))) = true := by kernel_rfl
theorem k18 : (Rows.fnRangeSetEachWalksRangesInKeyOrderSpec.vars.all (Try.prog.varReadable ·)) = true := by kernel_rfl
theorem k19 : (Try.f3.resultTypes.all (fun t => Try.prog.readableRec t && decide (t < Try.prog.types.size))) = true := by kernel_rfl
theorem k20 : ((Rows.fnRangeSetEachWalksRangesInKeyOrderRow.ifacesOut == Try.f3.resultTypes.toList.any (Try.prog.ifacesRec ·))) = true := by kernel_rfl
theorem k21 : ((Rows.fnRangeSetEachWalksRangesInKeyOrderRow.loopsOut == Try.f3.resultTypes.toList.any (Try.prog.loopsFrom ·))) = true := by kernel_rfl
theorem k22 : ((Rows.fnRangeSetEachWalksRangesInKeyOrderRow.plainKeys == Try.prog.plainKeys)) = true := by kernel_rfl
theorem k23 : (Rows.fnRangeSetEachWalksRangesInKeyOrderRow.shortTexts.isNone) = true := by kernel_rfl
theorem k24 : (Try.prog.stopsHeard) = true := by kernel_rfl
theorem k25 : (Try.prog.mayEnter) = true := by kernel_rfl
theorem k26 : ((Rows.fnRangeSetEachWalksRangesInKeyOrderRow.lifted == Try.prog.liftsFinal)) = true := by kernel_rfl
theorem k27 : ((Try.prog.make == some Rows.fnRangeSetEachWalksRangesInKeyOrderRow.make)) = true := by kernel_rfl
theorem k28 : ((Rows.fnRangeSetEachWalksRangesInKeyOrderRow.kinds == (if Rows.fnRangeSetEachWalksRangesInKeyOrderRow.domain.isEmpty then [] else Try.f3.params.toList.map fun t => match Try.prog.underlying t with | some (.int k) => some k | _ => none))) = true := by kernel_rfl
theorem k29 : ((Rows.fnRangeSetEachWalksRangesInKeyOrderRow.pinned == Rows.fnRangeSetEachWalksRangesInKeyOrderRow.pinnedBy)) = true := by kernel_rfl
theorem k30 : ((Rows.fnRangeSetEachWalksRangesInKeyOrderRow.veiled == (Try.f3.params.toList ++ Rows.fnRangeSetEachWalksRangesInKeyOrderSpec.plain.varTypes Try.prog ++ Try.f3.resultTypes.toList).any (Try.prog.veiledRec ·))) = true := by kernel_rfl
theorem k31 : (Rows.fnRangeSetEachWalksRangesInKeyOrderRow.veiledFits Try.prog Try.f3.params.toList (Try.f3.params.toList ++ Rows.fnRangeSetEachWalksRangesInKeyOrderSpec.plain.varTypes Try.prog ++ Try.f3.resultTypes.toList)) = true := by kernel_rfl
theorem closed : joinedFacts Try.prog 3 Try.f3 Rows.fnRangeSetEachWalksRangesInKeyOrderSpec Rows.fnRangeSetEachWalksRangesInKeyOrderRow = true := by
  unfold joinedFacts
  exact (and_mk (and_mk (and_mk (and_mk (and_mk (and_mk (and_mk (and_mk (and_mk (and_mk (and_mk (and_mk (and_mk (and_mk (and_mk (and_mk (and_mk (and_mk (and_mk (and_mk (and_mk (and_mk (and_mk (and_mk (and_mk (and_mk (and_mk (and_mk (and_mk (and_mk (and_mk k0 k1) k2) k3) k4) k5) k6) k7) k8) k9) k10) k11) k12) k13) k14) k15) k16) k17) k18) k19) k20) k21) k22) k23) k24) k25) k26) k27) k28) k29) k30) k31)

theorem named : Try.prog.funcNamed Rows.fnRangeSetEachWalksRangesInKeyOrderRow.func = some 3 := by kernel_rfl
theorem inst : Try.f3.isInstance Try.prog Rows.fnRangeSetEachWalksRangesInKeyOrderRow.origin Rows.fnRangeSetEachWalksRangesInKeyOrderRow.targs := of_decide_eq_true (by kernel_rfl)
theorem wrap : Try.f3.isWrapper Try.prog Rows.fnRangeSetEachWalksRangesInKeyOrderRow.wrapper Rows.fnRangeSetEachWalksRangesInKeyOrderRow.mainSum := by unfold Func.isWrapper; first | (rw [if_pos (by decide +kernel)]; kernel_rfl) | (rw [if_neg (by decide +kernel)]; exact ⟨rfl, rfl⟩)
end Go.Proofs.Qxb6615626a.fnRangeSetEachWalksRangesInKeyOrder
