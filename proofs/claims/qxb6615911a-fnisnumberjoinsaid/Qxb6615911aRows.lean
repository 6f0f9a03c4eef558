/-
  No cell of these rows narrows 'for every input' (looked for: loops, veiled, ifaces, maps, wideKeys, modest, calm, conditions, laid).
  DERIVED. THE GIVEN ROWS OF THIS SEAT. 2 by the template 'for every input the law returns true; each argument reads behind the call as it read before'; 0 by the template 'total and deterministic' (their statements: Qxb6615911aTotals.lean).
  GIVEN WITH THE SEED: the statements are not yours to turn. If you find one false, say at which input.
  Laid BY PROGRAM, IN A SANDBOX (cutbox-rows.mjs): the forced cells as the released guide's own fill.sh prints them over the translation 4584465db808a5ee… (all of the seat's roots in one cut). By AI agents, Wed Nov 11 2026. No macro, syntax, notation, axiom, sorry.
-/
import Derived.Test.Qxb6615911aChecked
import GoSem.Claim
import GoSem.ClaimJoined
import GoSem.ClaimMapViews
import Derived.JoinedTies
import Derived.KernelRfl
namespace Go.Proofs.Qxb6615911a
/- THE CELL 'sum', in the pinned program and in every row, IS THE sha256 OF THE DUMP (.gsa) THAT Qxb6615911aProg.lean LOADS. Nothing in Lean hashes anything: it is a label: what it is worth is what the hold of that sum in a sandbox is worth. -/
noncomputable def Try.pinned : Pinned := { name := "qxb6615911a", sum := "4584465db808a5eeaab3e902ecf27294e613534aed4165d9eb0ec8f53898a610", checked := Try.checked }
namespace Rows
def none {H : Type} : Left H := { results := [], args := [] }

/-- 'zzlaws_root_b1.FnIsNumberIsCanonicalDecimal': WHATEVER THE INPUT: true; the input reads as it did. -/
def fnIsNumberIsCanonicalDecimalSpec : ChangeSpec := { name := "fnIsNumberIsCanonicalDecimal", fn := fun _ => fun
  | [d] => { results := [.lit (.bool true)], args := [d] }
  | _ => none }
def fnIsNumberIsCanonicalDecimalRow : OpenClaim := { program := "qxb6615911a", sum := "4584465db808a5eeaab3e902ecf27294e613534aed4165d9eb0ec8f53898a610", func := "example.com/coffret/coffret/zzlaws_root_b1.FnIsNumberIsCanonicalDecimal", spec := "fnIsNumberIsCanonicalDecimal", apart := false }
def FnIsNumberIsCanonicalDecimalSaid : Prop := fnIsNumberIsCanonicalDecimalRow.holds Try.pinned (OpenSpec.ofChange fnIsNumberIsCanonicalDecimalSpec)

/-- ITS FALSE NEIGHBOUR: 'it returns false'. Refute it at one input. -/
def fnIsNumberIsCanonicalDecimalWrong : ChangeSpec := { name := "fnIsNumberIsCanonicalDecimal", fn := fun _ => fun
  | [d] => { results := [.lit (.bool false)], args := [d] }
  | _ => none }
def FnIsNumberIsCanonicalDecimalWrongFalsely : Prop := fnIsNumberIsCanonicalDecimalRow.holds Try.pinned (OpenSpec.ofChange fnIsNumberIsCanonicalDecimalWrong)

/-- 'zzlaws_root_b1.FnIsNumberJoin': WHATEVER THE INPUT: true; the input reads as it did. -/
def fnIsNumberJoinSpec : ChangeSpec := { name := "fnIsNumberJoin", fn := fun _ => fun
  | [d1, d2] => { results := [.lit (.bool true)], args := [d1, d2] }
  | _ => none }
def fnIsNumberJoinRow : OpenClaim := { program := "qxb6615911a", sum := "4584465db808a5eeaab3e902ecf27294e613534aed4165d9eb0ec8f53898a610", func := "example.com/coffret/coffret/zzlaws_root_b1.FnIsNumberJoin", spec := "fnIsNumberJoin", apart := false }
def FnIsNumberJoinSaid : Prop := fnIsNumberJoinRow.holds Try.pinned (OpenSpec.ofChange fnIsNumberJoinSpec)

/-- ITS FALSE NEIGHBOUR: 'it returns false'. Refute it at one input. -/
def fnIsNumberJoinWrong : ChangeSpec := { name := "fnIsNumberJoin", fn := fun _ => fun
  | [d1, d2] => { results := [.lit (.bool false)], args := [d1, d2] }
  | _ => none }
def FnIsNumberJoinWrongFalsely : Prop := fnIsNumberJoinRow.holds Try.pinned (OpenSpec.ofChange fnIsNumberJoinWrong)

end Rows
end Go.Proofs.Qxb6615911a
