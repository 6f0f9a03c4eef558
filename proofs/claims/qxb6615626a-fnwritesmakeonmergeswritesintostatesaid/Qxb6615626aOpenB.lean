/-
  Slices of bools that came in.
-/
import Derived.Test.Qxb6615626aOpen
import Derived.Test.Qxb6615626aVers
import Derived.Deep.Grids
namespace Go.Proofs.Qxb6615626a
open Go.ChangeShapes Go.WideShapes Go.ChangeAt Go.RowKit
set_option linter.unusedVariables false

theorem cells4 : Try.prog.cellsOf 4 = 1 := by kernel_rfl

theorem open_bools {H : Type} {enc : TypeId × Value → H} {W : World} {fuel : Nat} {v : Value} {x : DataW H × List MemPlace} (h : DataW.trod enc Try.prog W 0 (fun _ => true) true fuel 35 [v] = some x) :
    ∃ (s : Sl) (bs : List Bool), v = .slice s.a s.n s.c ∧ VL W s (bs.map Value.bool) ∧ s.n ≤ maxLen := by
  rcases Go.Deep.open_bools Try.underlying35 Try.underlying4 cells4 h with ⟨hcs, _⟩ | ⟨a, len, cap, B, hcs, _, hl, hm, _, hcell⟩
  · simp at hcs
    exact ⟨Sl.nil, [], hcs, ⟨rfl, fun _ => rfl, fun a h => (nomatch h)⟩, Nat.zero_le _⟩
  · simp at hcs
    refine ⟨⟨some a, len, cap⟩, (List.range len).map B, hcs, ⟨by simp, fun e => (nomatch e), fun ad ha i hi => ?_⟩, Nat.le_trans hl hm⟩
    cases ha
    have hil : i < len := by simpa using hi
    have hc := hcell i (by omega)
    obtain ⟨b, o, sp⟩ := a
    have hsp : sp = none := by
      have := World.cell?_spot (hcell 0 (by omega))
      simpa [Addr.add] using this
    subst hsp
    refine ⟨rfl, ?_⟩
    rw [addr_add] at hc
    rw [hc]
    simp
end Go.Proofs.Qxb6615626a
