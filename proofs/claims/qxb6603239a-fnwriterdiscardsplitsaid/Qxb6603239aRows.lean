/-
  No cell of these rows narrows 'for every input' (looked for: loops, veiled, ifaces, maps, wideKeys, modest, calm, conditions, laid).
  DERIVED. THE GIVEN ROWS OF THIS SEAT. 5 by the template 'for every input the law returns true; each argument reads behind the call as it read before'; 0 by the template 'total and deterministic' (their statements: Qxb6603239aTotals.lean).
  GIVEN WITH THE SEED: the statements are not yours to turn. If you find one false, say at which input.
  Laid BY PROGRAM, IN A SANDBOX (cutbox-rows.mjs): the forced cells as the released guide's own fill.sh prints them over the translation d2b34e5648a2ef69… (all of the seat's roots in one cut). By AI agents, Wed Nov 11 2026. No macro, syntax, notation, axiom, sorry.
-/
import Derived.Test.Qxb6603239aChecked
import GoSem.Claim
import GoSem.ClaimJoined
import GoSem.ClaimMapViews
import Derived.JoinedTies
import Derived.KernelRfl
namespace Go.Proofs.Qxb6603239a
/- THE CELL 'sum', in the pinned program and in every row, IS THE sha256 OF THE DUMP (.gsa) THAT Qxb6603239aProg.lean LOADS. Nothing in Lean hashes anything: it is a label: what it is worth is what the hold of that sum in a sandbox is worth. -/
noncomputable def Try.pinned : Pinned := { name := "qxb6603239a", sum := "d2b34e5648a2ef690f8e359ad2bc0fd9fa26157487906425542b270d0faf9fd6", checked := Try.checked }
namespace Rows
def none {H : Type} : Left H := { results := [], args := [] }

/-- 'zzlaws_internal_resp_b1.FnReaderRoomReachableBoundAndIdempotent': WHATEVER THE INPUT: true; the input reads as it did. -/
def fnReaderRoomReachableBoundAndIdempotentSpec : ChangeSpec := { name := "fnReaderRoomReachableBoundAndIdempotent", fn := fun _ => fun
  | [d1, d2, d3] => { results := [.lit (.bool true)], args := [d1, d2, d3] }
  | _ => none }
def fnReaderRoomReachableBoundAndIdempotentRow : OpenClaim := { program := "qxb6603239a", sum := "d2b34e5648a2ef690f8e359ad2bc0fd9fa26157487906425542b270d0faf9fd6", func := "example.com/narrow-store/narrow-store/zzlaws_internal_resp_b1.FnReaderRoomReachableBoundAndIdempotent", spec := "fnReaderRoomReachableBoundAndIdempotent", apart := false }
def FnReaderRoomReachableBoundAndIdempotentSaid : Prop := fnReaderRoomReachableBoundAndIdempotentRow.holds Try.pinned (OpenSpec.ofChange fnReaderRoomReachableBoundAndIdempotentSpec)

/-- ITS FALSE NEIGHBOUR: 'it returns false'. Refute it at one input. -/
def fnReaderRoomReachableBoundAndIdempotentWrong : ChangeSpec := { name := "fnReaderRoomReachableBoundAndIdempotent", fn := fun _ => fun
  | [d1, d2, d3] => { results := [.lit (.bool false)], args := [d1, d2, d3] }
  | _ => none }
def FnReaderRoomReachableBoundAndIdempotentWrongFalsely : Prop := fnReaderRoomReachableBoundAndIdempotentRow.holds Try.pinned (OpenSpec.ofChange fnReaderRoomReachableBoundAndIdempotentWrong)

/-- 'zzlaws_internal_resp_b1.FnWriterDiscardWhole': WHATEVER THE INPUT: true; the input reads as it did. -/
def fnWriterDiscardWholeSpec : ChangeSpec := { name := "fnWriterDiscardWhole", fn := fun _ => fun
  | [d1, d2, d3, d4] => { results := [.lit (.bool true)], args := [d1, d2, d3, d4] }
  | _ => none }
def fnWriterDiscardWholeRow : OpenClaim := { program := "qxb6603239a", sum := "d2b34e5648a2ef690f8e359ad2bc0fd9fa26157487906425542b270d0faf9fd6", func := "example.com/narrow-store/narrow-store/zzlaws_internal_resp_b1.FnWriterDiscardWhole", spec := "fnWriterDiscardWhole", apart := false }
def FnWriterDiscardWholeSaid : Prop := fnWriterDiscardWholeRow.holds Try.pinned (OpenSpec.ofChange fnWriterDiscardWholeSpec)

/-- ITS FALSE NEIGHBOUR: 'it returns false'. Refute it at one input. -/
def fnWriterDiscardWholeWrong : ChangeSpec := { name := "fnWriterDiscardWhole", fn := fun _ => fun
  | [d1, d2, d3, d4] => { results := [.lit (.bool false)], args := [d1, d2, d3, d4] }
  | _ => none }
def FnWriterDiscardWholeWrongFalsely : Prop := fnWriterDiscardWholeRow.holds Try.pinned (OpenSpec.ofChange fnWriterDiscardWholeWrong)

/-- 'zzlaws_internal_resp_b1.FnWriterDiscardSplit': WHATEVER THE INPUT: true; the input reads as it did. -/
def fnWriterDiscardSplitSpec : ChangeSpec := { name := "fnWriterDiscardSplit", fn := fun _ => fun
  | [d1, d2, d3, d4, d5] => { results := [.lit (.bool true)], args := [d1, d2, d3, d4, d5] }
  | _ => none }
def fnWriterDiscardSplitRow : OpenClaim := { program := "qxb6603239a", sum := "d2b34e5648a2ef690f8e359ad2bc0fd9fa26157487906425542b270d0faf9fd6", func := "example.com/narrow-store/narrow-store/zzlaws_internal_resp_b1.FnWriterDiscardSplit", spec := "fnWriterDiscardSplit", apart := false }
def FnWriterDiscardSplitSaid : Prop := fnWriterDiscardSplitRow.holds Try.pinned (OpenSpec.ofChange fnWriterDiscardSplitSpec)

/-- ITS FALSE NEIGHBOUR: 'it returns false'. Refute it at one input. -/
def fnWriterDiscardSplitWrong : ChangeSpec := { name := "fnWriterDiscardSplit", fn := fun _ => fun
  | [d1, d2, d3, d4, d5] => { results := [.lit (.bool false)], args := [d1, d2, d3, d4, d5] }
  | _ => none }
def FnWriterDiscardSplitWrongFalsely : Prop := fnWriterDiscardSplitRow.holds Try.pinned (OpenSpec.ofChange fnWriterDiscardSplitWrong)

/-- 'zzlaws_internal_resp_b1.FnTakeWhole': WHATEVER THE INPUT: true; the input reads as it did. -/
def fnTakeWholeSpec : ChangeSpec := { name := "fnTakeWhole", fn := fun _ => fun
  | [d1, d2] => { results := [.lit (.bool true)], args := [d1, d2] }
  | _ => none }
def fnTakeWholeRow : OpenClaim := { program := "qxb6603239a", sum := "d2b34e5648a2ef690f8e359ad2bc0fd9fa26157487906425542b270d0faf9fd6", func := "example.com/narrow-store/narrow-store/zzlaws_internal_resp_b1.FnTakeWhole", spec := "fnTakeWhole", apart := false }
def FnTakeWholeSaid : Prop := fnTakeWholeRow.holds Try.pinned (OpenSpec.ofChange fnTakeWholeSpec)

/-- ITS FALSE NEIGHBOUR: 'it returns false'. Refute it at one input. -/
def fnTakeWholeWrong : ChangeSpec := { name := "fnTakeWhole", fn := fun _ => fun
  | [d1, d2] => { results := [.lit (.bool false)], args := [d1, d2] }
  | _ => none }
def FnTakeWholeWrongFalsely : Prop := fnTakeWholeRow.holds Try.pinned (OpenSpec.ofChange fnTakeWholeWrong)

/-- 'zzlaws_internal_resp_b1.FnTakeOwnership': WHATEVER THE INPUT: true; the input reads as it did. -/
def fnTakeOwnershipSpec : ChangeSpec := { name := "fnTakeOwnership", fn := fun _ => fun
  | [d1, d2] => { results := [.lit (.bool true)], args := [d1, d2] }
  | _ => none }
def fnTakeOwnershipRow : OpenClaim := { program := "qxb6603239a", sum := "d2b34e5648a2ef690f8e359ad2bc0fd9fa26157487906425542b270d0faf9fd6", func := "example.com/narrow-store/narrow-store/zzlaws_internal_resp_b1.FnTakeOwnership", spec := "fnTakeOwnership", apart := false }
def FnTakeOwnershipSaid : Prop := fnTakeOwnershipRow.holds Try.pinned (OpenSpec.ofChange fnTakeOwnershipSpec)

/-- ITS FALSE NEIGHBOUR: 'it returns false'. Refute it at one input. -/
def fnTakeOwnershipWrong : ChangeSpec := { name := "fnTakeOwnership", fn := fun _ => fun
  | [d1, d2] => { results := [.lit (.bool false)], args := [d1, d2] }
  | _ => none }
def FnTakeOwnershipWrongFalsely : Prop := fnTakeOwnershipRow.holds Try.pinned (OpenSpec.ofChange fnTakeOwnershipWrong)

end Rows
end Go.Proofs.Qxb6603239a
