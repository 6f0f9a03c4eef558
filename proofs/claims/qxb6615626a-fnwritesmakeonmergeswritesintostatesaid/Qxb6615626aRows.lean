/-
  No cell of these rows narrows 'for every input' (looked for: loops, veiled, ifaces, maps, wideKeys, modest, calm, conditions, laid).
  DERIVED. THE GIVEN ROWS OF THIS SEAT. 6 by the template 'for every input the law returns true; each argument reads behind the call as it read before'; 0 by the template 'total and deterministic' (their statements: Qxb6615626aTotals.lean).
  GIVEN WITH THE SEED: the statements are not yours to turn. If you find one false, say at which input.
  Laid BY PROGRAM, IN A SANDBOX (cutbox-rows.mjs): the forced cells as the released guide's own fill.sh prints them over the translation a2610c97850b7818… (all of the seat's roots in one cut). By AI agents, Wed Nov 11 2026. No macro, syntax, notation, axiom, sorry.
-/
import Derived.Test.Qxb6615626aChecked
import GoSem.Claim
import GoSem.ClaimJoined
import GoSem.ClaimMapViews
import Derived.JoinedTies
import Derived.KernelRfl
namespace Go.Proofs.Qxb6615626a
/- THE CELL 'sum', in the pinned program and in every row, IS THE sha256 OF THE DUMP (.gsa) THAT Qxb6615626aProg.lean LOADS. Nothing in Lean hashes anything: it is a label: what it is worth is what the hold of that sum in a sandbox is worth. -/
noncomputable def Try.pinned : Pinned := { name := "qxb6615626a", sum := "a2610c97850b78186b73d00f6ba5b239ef022e636c6abfb939f00b2b778ed9fb", checked := Try.checked }
namespace Rows
def none {H : Type} : Left H := { results := [], args := [] }

/-- 'zzlaws_internal_store_b1.FnRangeSetEachWalksRangesInKeyOrder': WHATEVER THE INPUT: true; the input reads as it did. -/
def fnRangeSetEachWalksRangesInKeyOrderSpec : ChangeSpec := { name := "fnRangeSetEachWalksRangesInKeyOrder", fn := fun _ => fun
  | [d1, d2, d3, d4, d5] => { results := [.lit (.bool true)], args := [d1, d2, d3, d4, d5] }
  | _ => none }
def fnRangeSetEachWalksRangesInKeyOrderRow : OpenClaim := { program := "qxb6615626a", sum := "a2610c97850b78186b73d00f6ba5b239ef022e636c6abfb939f00b2b778ed9fb", func := "example.com/tidelock/tidelock/zzlaws_internal_store_b1.FnRangeSetEachWalksRangesInKeyOrder", spec := "fnRangeSetEachWalksRangesInKeyOrder", inPlace := ["internal/bytealg.Compare"], unfollowed := true, recurses := true, apart := false }
def FnRangeSetEachWalksRangesInKeyOrderSaid : Prop := fnRangeSetEachWalksRangesInKeyOrderRow.holds Try.pinned (OpenSpec.ofChange fnRangeSetEachWalksRangesInKeyOrderSpec)

/-- ITS FALSE NEIGHBOUR: 'it returns false'. Refute it at one input. -/
def fnRangeSetEachWalksRangesInKeyOrderWrong : ChangeSpec := { name := "fnRangeSetEachWalksRangesInKeyOrder", fn := fun _ => fun
  | [d1, d2, d3, d4, d5] => { results := [.lit (.bool false)], args := [d1, d2, d3, d4, d5] }
  | _ => none }
def FnRangeSetEachWalksRangesInKeyOrderWrongFalsely : Prop := fnRangeSetEachWalksRangesInKeyOrderRow.holds Try.pinned (OpenSpec.ofChange fnRangeSetEachWalksRangesInKeyOrderWrong)

/-- 'zzlaws_internal_store_b1.FnRangeSetEachCoversExactlyTheKeysPutIn': WHATEVER THE INPUT: true; the input reads as it did. -/
def fnRangeSetEachCoversExactlyTheKeysPutInSpec : ChangeSpec := { name := "fnRangeSetEachCoversExactlyTheKeysPutIn", fn := fun _ => fun
  | [d1, d2, d3, d4, d5] => { results := [.lit (.bool true)], args := [d1, d2, d3, d4, d5] }
  | _ => none }
def fnRangeSetEachCoversExactlyTheKeysPutInRow : OpenClaim := { program := "qxb6615626a", sum := "a2610c97850b78186b73d00f6ba5b239ef022e636c6abfb939f00b2b778ed9fb", func := "example.com/tidelock/tidelock/zzlaws_internal_store_b1.FnRangeSetEachCoversExactlyTheKeysPutIn", spec := "fnRangeSetEachCoversExactlyTheKeysPutIn", inPlace := ["internal/bytealg.Compare"], unfollowed := true, recurses := true, apart := false }
def FnRangeSetEachCoversExactlyTheKeysPutInSaid : Prop := fnRangeSetEachCoversExactlyTheKeysPutInRow.holds Try.pinned (OpenSpec.ofChange fnRangeSetEachCoversExactlyTheKeysPutInSpec)

/-- ITS FALSE NEIGHBOUR: 'it returns false'. Refute it at one input. -/
def fnRangeSetEachCoversExactlyTheKeysPutInWrong : ChangeSpec := { name := "fnRangeSetEachCoversExactlyTheKeysPutIn", fn := fun _ => fun
  | [d1, d2, d3, d4, d5] => { results := [.lit (.bool false)], args := [d1, d2, d3, d4, d5] }
  | _ => none }
def FnRangeSetEachCoversExactlyTheKeysPutInWrongFalsely : Prop := fnRangeSetEachCoversExactlyTheKeysPutInRow.holds Try.pinned (OpenSpec.ofChange fnRangeSetEachCoversExactlyTheKeysPutInWrong)

/-- 'zzlaws_internal_store_b1.FnCommitEachHandsLastWriteOfEachKeyInOrder': WHATEVER THE INPUT: true; the input reads as it did. -/
def fnCommitEachHandsLastWriteOfEachKeyInOrderSpec : ChangeSpec := { name := "fnCommitEachHandsLastWriteOfEachKeyInOrder", fn := fun _ => fun
  | [d1, d2, d3] => { results := [.lit (.bool true)], args := [d1, d2, d3] }
  | _ => none }
def fnCommitEachHandsLastWriteOfEachKeyInOrderRow : OpenClaim := { program := "qxb6615626a", sum := "a2610c97850b78186b73d00f6ba5b239ef022e636c6abfb939f00b2b778ed9fb", func := "example.com/tidelock/tidelock/zzlaws_internal_store_b1.FnCommitEachHandsLastWriteOfEachKeyInOrder", spec := "fnCommitEachHandsLastWriteOfEachKeyInOrder", inPlace := ["internal/bytealg.Compare"], unfollowed := true, recurses := true, apart := false }
def FnCommitEachHandsLastWriteOfEachKeyInOrderSaid : Prop := fnCommitEachHandsLastWriteOfEachKeyInOrderRow.holds Try.pinned (OpenSpec.ofChange fnCommitEachHandsLastWriteOfEachKeyInOrderSpec)

/-- ITS FALSE NEIGHBOUR: 'it returns false'. Refute it at one input. -/
def fnCommitEachHandsLastWriteOfEachKeyInOrderWrong : ChangeSpec := { name := "fnCommitEachHandsLastWriteOfEachKeyInOrder", fn := fun _ => fun
  | [d1, d2, d3] => { results := [.lit (.bool false)], args := [d1, d2, d3] }
  | _ => none }
def FnCommitEachHandsLastWriteOfEachKeyInOrderWrongFalsely : Prop := fnCommitEachHandsLastWriteOfEachKeyInOrderRow.holds Try.pinned (OpenSpec.ofChange fnCommitEachHandsLastWriteOfEachKeyInOrderWrong)

/-- 'zzlaws_internal_store_b1.FnCommitEachListAndTreeFormsAgree': WHATEVER THE INPUT: true; the input reads as it did. -/
def fnCommitEachListAndTreeFormsAgreeSpec : ChangeSpec := { name := "fnCommitEachListAndTreeFormsAgree", fn := fun _ => fun
  | [d1, d2, d3] => { results := [.lit (.bool true)], args := [d1, d2, d3] }
  | _ => none }
def fnCommitEachListAndTreeFormsAgreeRow : OpenClaim := { program := "qxb6615626a", sum := "a2610c97850b78186b73d00f6ba5b239ef022e636c6abfb939f00b2b778ed9fb", func := "example.com/tidelock/tidelock/zzlaws_internal_store_b1.FnCommitEachListAndTreeFormsAgree", spec := "fnCommitEachListAndTreeFormsAgree", inPlace := ["internal/bytealg.Compare"], unfollowed := true, recurses := true, apart := false }
def FnCommitEachListAndTreeFormsAgreeSaid : Prop := fnCommitEachListAndTreeFormsAgreeRow.holds Try.pinned (OpenSpec.ofChange fnCommitEachListAndTreeFormsAgreeSpec)

/-- ITS FALSE NEIGHBOUR: 'it returns false'. Refute it at one input. -/
def fnCommitEachListAndTreeFormsAgreeWrong : ChangeSpec := { name := "fnCommitEachListAndTreeFormsAgree", fn := fun _ => fun
  | [d1, d2, d3] => { results := [.lit (.bool false)], args := [d1, d2, d3] }
  | _ => none }
def FnCommitEachListAndTreeFormsAgreeWrongFalsely : Prop := fnCommitEachListAndTreeFormsAgreeRow.holds Try.pinned (OpenSpec.ofChange fnCommitEachListAndTreeFormsAgreeWrong)

/-- 'zzlaws_internal_store_b1.FnWritesMakeOnMergesWritesIntoState': WHATEVER THE INPUT: true; the input reads as it did. -/
def fnWritesMakeOnMergesWritesIntoStateSpec : ChangeSpec := { name := "fnWritesMakeOnMergesWritesIntoState", fn := fun _ => fun
  | [d1, d2, d3, d4, d5] => { results := [.lit (.bool true)], args := [d1, d2, d3, d4, d5] }
  | _ => none }
def fnWritesMakeOnMergesWritesIntoStateRow : OpenClaim := { program := "qxb6615626a", sum := "a2610c97850b78186b73d00f6ba5b239ef022e636c6abfb939f00b2b778ed9fb", func := "example.com/tidelock/tidelock/zzlaws_internal_store_b1.FnWritesMakeOnMergesWritesIntoState", spec := "fnWritesMakeOnMergesWritesIntoState", inPlace := ["internal/bytealg.Compare"], unfollowed := true, recurses := true, apart := false }
def FnWritesMakeOnMergesWritesIntoStateSaid : Prop := fnWritesMakeOnMergesWritesIntoStateRow.holds Try.pinned (OpenSpec.ofChange fnWritesMakeOnMergesWritesIntoStateSpec)

/-- ITS FALSE NEIGHBOUR: 'it returns false'. Refute it at one input. -/
def fnWritesMakeOnMergesWritesIntoStateWrong : ChangeSpec := { name := "fnWritesMakeOnMergesWritesIntoState", fn := fun _ => fun
  | [d1, d2, d3, d4, d5] => { results := [.lit (.bool false)], args := [d1, d2, d3, d4, d5] }
  | _ => none }
def FnWritesMakeOnMergesWritesIntoStateWrongFalsely : Prop := fnWritesMakeOnMergesWritesIntoStateRow.holds Try.pinned (OpenSpec.ofChange fnWritesMakeOnMergesWritesIntoStateWrong)

/-- 'zzlaws_internal_store_b1.FnWritesMakeOnTwiceIsOnceAndStepsOncePerWrite': WHATEVER THE INPUT: true; the input reads as it did. -/
def fnWritesMakeOnTwiceIsOnceAndStepsOncePerWriteSpec : ChangeSpec := { name := "fnWritesMakeOnTwiceIsOnceAndStepsOncePerWrite", fn := fun _ => fun
  | [d1, d2, d3, d4, d5] => { results := [.lit (.bool true)], args := [d1, d2, d3, d4, d5] }
  | _ => none }
def fnWritesMakeOnTwiceIsOnceAndStepsOncePerWriteRow : OpenClaim := { program := "qxb6615626a", sum := "a2610c97850b78186b73d00f6ba5b239ef022e636c6abfb939f00b2b778ed9fb", func := "example.com/tidelock/tidelock/zzlaws_internal_store_b1.FnWritesMakeOnTwiceIsOnceAndStepsOncePerWrite", spec := "fnWritesMakeOnTwiceIsOnceAndStepsOncePerWrite", inPlace := ["internal/bytealg.Compare"], unfollowed := true, recurses := true, apart := false }
def FnWritesMakeOnTwiceIsOnceAndStepsOncePerWriteSaid : Prop := fnWritesMakeOnTwiceIsOnceAndStepsOncePerWriteRow.holds Try.pinned (OpenSpec.ofChange fnWritesMakeOnTwiceIsOnceAndStepsOncePerWriteSpec)

/-- ITS FALSE NEIGHBOUR: 'it returns false'. Refute it at one input. -/
def fnWritesMakeOnTwiceIsOnceAndStepsOncePerWriteWrong : ChangeSpec := { name := "fnWritesMakeOnTwiceIsOnceAndStepsOncePerWrite", fn := fun _ => fun
  | [d1, d2, d3, d4, d5] => { results := [.lit (.bool false)], args := [d1, d2, d3, d4, d5] }
  | _ => none }
def FnWritesMakeOnTwiceIsOnceAndStepsOncePerWriteWrongFalsely : Prop := fnWritesMakeOnTwiceIsOnceAndStepsOncePerWriteRow.holds Try.pinned (OpenSpec.ofChange fnWritesMakeOnTwiceIsOnceAndStepsOncePerWriteWrong)

end Rows
end Go.Proofs.Qxb6615626a
