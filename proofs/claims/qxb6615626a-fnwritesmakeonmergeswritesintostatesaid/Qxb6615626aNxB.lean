/-
  Cursors: Next (V by the namespace).
-/
import Derived.Test.Qxb6615626aCur3B
namespace Go.Proofs.Qxb6615626a.BV
open Go.RowKit
set_option linter.unusedVariables false

set_option maxHeartbeats 2000000 in
/-- Next: one step on in the leaf, then settle -/
theorem next_of (cb g cap n o nb i : Nat) (w : World) (hn : n = 1 ∧ o = 0 ∨ n = 2 ∧ o = 2) (h : Top w cb g cap n o nb i) (hz : w.frozen? ⟨g, o + 1, none⟩ = false) (hi : i ≤ 100000) (R : World → Prop)
    (hs : Calls Try.prog 78 #[.pointer (some ⟨cb, 0, none⟩)] (w.setCell ⟨g, o + 1, none⟩ (.int .i64 ((i : Int) + 1))).drew fun e w' => e = .returned (.tuple #[]) ∧ R w') :
    Calls Try.prog 50 #[.pointer (some ⟨cb, 0, none⟩)] w fun e w' => e = .returned (.tuple #[]) ∧ R w' := by
  have c0 := h.cur.c0
  have hcl := h.cur.lt
  have hgl := h.glt
  have h0 := h.h0; have h1 := h.h1
  clear h
  rcases hn with ⟨rfl, rfl⟩ | ⟨rfl, rfl⟩
  all_goals
    have HS := hide hs
    clear hs
    go_enter Try.func50, Try.ntmps50
    go_wp2_with fail
    go_region
    go_wp2_with (go_at_call 78; refine (unhide HS).mono ?_; rintro e w9 ⟨rfl, hw9⟩)
    go_end0
    exact ⟨rfl, hw9⟩

end Go.Proofs.Qxb6615626a.BV
