/-
  The closed facts of Rows.fnCommitEachHandsLastWriteOfEachKeyInOrderRow, one declaration each.
-/
import Derived.Test.Qxb6615626aRows
import Derived.ProofKit
import Derived.KernelRfl
namespace Go.Proofs.Qxb6615626a.fnCommitEachHandsLastWriteOfEachKeyInOrder
set_option linter.unusedVariables false
set_option maxRecDepth 100000

theorem and_mk {a b : Bool} (h : a = true) (k : b = true) : (a && b) = true := by rw [h, k]; rfl

theorem k0 : (Rows.fnCommitEachHandsLastWriteOfEachKeyInOrderRow.wf (OpenSpec.ofChange Rows.fnCommitEachHandsLastWriteOfEachKeyInOrderSpec)) = true := by kernel_rfl
theorem k1 : (laidOutB Try.prog) = true := by kernel_rfl
theorem k2 : (mapsRowed Try.prog) = true := by kernel_rfl
theorem k3 : (Try.f5.params.all (Try.prog.readableRec ·)) = true := by kernel_rfl
theorem k4 : (namedTie Try.prog Rows.fnCommitEachHandsLastWriteOfEachKeyInOrderRow.named Rows.fnCommitEachHandsLastWriteOfEachKeyInOrderSpec.vars) = true := by kernel_rfl
theorem k5 : ((Rows.fnCommitEachHandsLastWriteOfEachKeyInOrderRow.stops == [])) = true := by kernel_rfl
theorem k6 : ((Try.prog.stops == [])) = true := by kernel_rfl
theorem k7 : ((Rows.fnCommitEachHandsLastWriteOfEachKeyInOrderRow.knobs == [])) = true := by kernel_rfl
theorem k8 : ((Try.prog.stopKnobs == [])) = true := by kernel_rfl
theorem k9 : ((Rows.fnCommitEachHandsLastWriteOfEachKeyInOrderRow.inPlace == Try.prog.inPlace 5)) = true := by kernel_rfl
theorem k10 : ((Rows.fnCommitEachHandsLastWriteOfEachKeyInOrderRow.unfollowed == Try.prog.unfollowed 5)) = true := by kernel_rfl
theorem k11 : ((Rows.fnCommitEachHandsLastWriteOfEachKeyInOrderRow.recurses == Try.prog.recurses 5)) = true := by kernel_rfl
theorem k12 : ((Rows.fnCommitEachHandsLastWriteOfEachKeyInOrderRow.named == Try.prog.varsNamed 5)) = true := by kernel_rfl
theorem k13 : ((Rows.fnCommitEachHandsLastWriteOfEachKeyInOrderRow.maps == (Try.f5.params.toList ++ Rows.fnCommitEachHandsLastWriteOfEachKeyInOrderSpec.plain.varTypes Try.prog).any (Try.prog.mapsRec ·))) = true := by kernel_rfl
theorem k14 : ((Rows.fnCommitEachHandsLastWriteOfEachKeyInOrderRow.ifaces == (Try.f5.params.toList ++ Rows.fnCommitEachHandsLastWriteOfEachKeyInOrderSpec.plain.varTypes Try.prog).any (Try.prog.ifacesRec ·))) = true := by kernel_rfl
theorem k15 : ((Rows.fnCommitEachHandsLastWriteOfEachKeyInOrderRow.mapsOut == Try.prog.mapsAmong Try.f5.resultTypes.toList)) = true := by kernel_rfl
theorem k16 : ((Rows.fnCommitEachHandsLastWriteOfEachKeyInOrderRow.loops == (Try.f5.params.toList ++ Rows.fnCommitEachHandsLastWriteOfEachKeyInOrderSpec.plain.varTypes Try.prog).any (Try.prog.loopsFrom ·))) = true := by kernel_rfl
theorem k17 : ((Rows.fnCommitEachHandsLastWriteOfEachKeyInOrderRow.wideKeys == (Try.f5.params.toList ++ Rows.fnCommitEachHandsLastWriteOfEachKeyInOrderSpec.plain.varTypes Try.prog ++ Try.f5.resultTypes.toList).any (Try.prog.wideKeysFrom ·))) = true := by kernel_rfl
theorem k18 : (Rows.fnCommitEachHandsLastWriteOfEachKeyInOrderSpec.vars.all (Try.prog.varReadable ·)) = true := by kernel_rfl
theorem k19 : (Try.f5.resultTypes.all (fun t => Try.prog.readableRec t && decide (t < Try.prog.types.size))) = true := by kernel_rfl
theorem k20 : ((Rows.fnCommitEachHandsLastWriteOfEachKeyInOrderRow.ifacesOut == Try.f5.resultTypes.toList.any (Try.prog.ifacesRec ·))) = true := by kernel_rfl
theorem k21 : ((Rows.fnCommitEachHandsLastWriteOfEachKeyInOrderRow.loopsOut == Try.f5.resultTypes.toList.any (Try.prog.loopsFrom ·))) = true := by kernel_rfl
theorem k22 : ((Rows.fnCommitEachHandsLastWriteOfEachKeyInOrderRow.plainKeys == Try.prog.plainKeys)) = true := by kernel_rfl
theorem k23 : (Rows.fnCommitEachHandsLastWriteOfEachKeyInOrderRow.shortTexts.isNone) = true := by kernel_rfl
theorem k24 : (Try.prog.stopsHeard) = true := by kernel_rfl
theorem k25 : (Try.prog.mayEnter) = true := by kernel_rfl
theorem k26 : ((Rows.fnCommitEachHandsLastWriteOfEachKeyInOrderRow.lifted == Try.prog.liftsFinal)) = true := by kernel_rfl
theorem k27 : ((Try.prog.make == some Rows.fnCommitEachHandsLastWriteOfEachKeyInOrderRow.make)) = true := by kernel_rfl
theorem k28 : ((Rows.fnCommitEachHandsLastWriteOfEachKeyInOrderRow.kinds == (if Rows.fnCommitEachHandsLastWriteOfEachKeyInOrderRow.domain.isEmpty then [] else Try.f5.params.toList.map fun t => match Try.prog.underlying t with | some (.int k) => some k | _ => none))) = true := by kernel_rfl
theorem k29 : ((Rows.fnCommitEachHandsLastWriteOfEachKeyInOrderRow.pinned == Rows.fnCommitEachHandsLastWriteOfEachKeyInOrderRow.pinnedBy)) = true := by kernel_rfl
theorem k30 : ((Rows.fnCommitEachHandsLastWriteOfEachKeyInOrderRow.veiled == (Try.f5.params.toList ++ Rows.fnCommitEachHandsLastWriteOfEachKeyInOrderSpec.plain.varTypes Try.prog ++ Try.f5.resultTypes.toList).any (Try.prog.veiledRec ·))) = true := by kernel_rfl
theorem k31 : (Rows.fnCommitEachHandsLastWriteOfEachKeyInOrderRow.veiledFits Try.prog Try.f5.params.toList (Try.f5.params.toList ++ Rows.fnCommitEachHandsLastWriteOfEachKeyInOrderSpec.plain.varTypes Try.prog ++ Try.f5.resultTypes.toList)) = true := by kernel_rfl
theorem closed : joinedFacts Try.prog 5 Try.f5 Rows.fnCommitEachHandsLastWriteOfEachKeyInOrderSpec Rows.fnCommitEachHandsLastWriteOfEachKeyInOrderRow = true := by
  unfold joinedFacts
  exact (and_mk (and_mk (and_mk (and_mk (and_mk (and_mk (and_mk (and_mk (and_mk (and_mk (and_mk (and_mk (and_mk (and_mk (and_mk (and_mk (and_mk (and_mk (and_mk (and_mk (and_mk (and_mk (and_mk (and_mk (and_mk (and_mk (and_mk (and_mk (and_mk (and_mk (and_mk k0 k1) k2) k3) k4) k5) k6) k7) k8) k9) k10) k11) k12) k13) k14) k15) k16) k17) k18) k19) k20) k21) k22) k23) k24) k25) k26) k27) k28) k29) k30) k31)

theorem named : Try.prog.funcNamed Rows.fnCommitEachHandsLastWriteOfEachKeyInOrderRow.func = some 5 := by kernel_rfl
theorem inst : Try.f5.isInstance Try.prog Rows.fnCommitEachHandsLastWriteOfEachKeyInOrderRow.origin Rows.fnCommitEachHandsLastWriteOfEachKeyInOrderRow.targs := of_decide_eq_true (by kernel_rfl)
theorem wrap : Try.f5.isWrapper Try.prog Rows.fnCommitEachHandsLastWriteOfEachKeyInOrderRow.wrapper Rows.fnCommitEachHandsLastWriteOfEachKeyInOrderRow.mainSum := by unfold Func.isWrapper; first | (rw [if_pos (by decide +kernel)]; kernel_rfl) | (rw [if_neg (by decide +kernel)]; exact ⟨rfl, rfl⟩)
end Go.Proofs.Qxb6615626a.fnCommitEachHandsLastWriteOfEachKeyInOrder
