/-
  Two equal pointers to Versions are not unequal.
-/
import Derived.Test.Qxb6615626aRow
import Derived.Lib.Builder
namespace Go.Proofs.Qxb6615626a
open Go.RowKit
set_option linter.unusedVariables false

theorem info77 : (Try.prog.info? 77).map (fun i => i.size) = some 1 := by kernel_rfl

theorem neq_same (x : Option Addr) (w : World) : (binOp .neq 48 (.pointer x) (.pointer x)).run Try.prog w = .ok (.bool false) w := by
  cases x with
  | none =>
    have h : ∀ d : Nat, (Op.equalIn (d + 1) 48 (.pointer none) (.pointer none)).run Try.prog w = .ok true w := fun d => by
      simp [Op.equalIn, run_underlying Try.underlying48]
    simp only [binOp]
    simp [Op.equal, Op.maxDepth, h 9999]
  | some a =>
    obtain ⟨j, hj, _⟩ := Option.map_eq_some_iff.1 info77
    exact Lib.run_neq_ptr_same w a Try.underlying48 hj
end Go.Proofs.Qxb6615626a
