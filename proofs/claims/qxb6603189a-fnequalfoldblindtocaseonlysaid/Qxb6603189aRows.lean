/-
  No cell of these rows narrows 'for every input' (looked for: loops, veiled, ifaces, maps, wideKeys, modest, calm, conditions, laid).
  DERIVED. THE GIVEN ROWS OF THIS SEAT. 6 by the template 'for every input the law returns true; each argument reads behind the call as it read before'; 0 by the template 'total and deterministic' (their statements: Qxb6603189aTotals.lean).
  GIVEN WITH THE SEED: the statements are not yours to turn. If you find one false, say at which input.
  Laid BY PROGRAM, IN A SANDBOX (cutbox-rows.mjs): the forced cells as the released guide's own fill.sh prints them over the translation 0845ee816e9d1349… (all of the seat's roots in one cut). By AI agents, Wed Nov 11 2026. No macro, syntax, notation, axiom, sorry.
-/
import Derived.Test.Qxb6603189aChecked
import GoSem.Claim
import GoSem.ClaimJoined
import GoSem.ClaimMapViews
import Derived.JoinedTies
import Derived.KernelRfl
namespace Go.Proofs.Qxb6603189a
/- THE CELL 'sum', in the pinned program and in every row, IS THE sha256 OF THE DUMP (.gsa) THAT Qxb6603189aProg.lean LOADS. Nothing in Lean hashes anything: it is a label: what it is worth is what the hold of that sum in a sandbox is worth. -/
noncomputable def Try.pinned : Pinned := { name := "qxb6603189a", sum := "0845ee816e9d134950a8aee1397f32a336b07ad0369520f8f41b8b6523e51bcb", checked := Try.checked }
namespace Rows
def none {H : Type} : Left H := { results := [], args := [] }

/-- 'zzlaws_root_b1.FnGroupedMatchesRightToLeftModel': WHATEVER THE INPUT: true; the input reads as it did. -/
def fnGroupedMatchesRightToLeftModelSpec : ChangeSpec := { name := "fnGroupedMatchesRightToLeftModel", fn := fun _ => fun
  | [d] => { results := [.lit (.bool true)], args := [d] }
  | _ => none }
def fnGroupedMatchesRightToLeftModelRow : OpenClaim := { program := "qxb6603189a", sum := "0845ee816e9d134950a8aee1397f32a336b07ad0369520f8f41b8b6523e51bcb", func := "example.com/lachesis/lachesis/zzlaws_root_b1.FnGroupedMatchesRightToLeftModel", spec := "fnGroupedMatchesRightToLeftModel", inPlace := ["internal/bytealg.IndexByteString", "internal/bytealg.IndexString"], named := ["internal/bytealg.MaxLen"], apart := false }
def FnGroupedMatchesRightToLeftModelSaid : Prop := fnGroupedMatchesRightToLeftModelRow.holds Try.pinned (OpenSpec.ofChange fnGroupedMatchesRightToLeftModelSpec)

/-- ITS FALSE NEIGHBOUR: 'it returns false'. Refute it at one input. -/
def fnGroupedMatchesRightToLeftModelWrong : ChangeSpec := { name := "fnGroupedMatchesRightToLeftModel", fn := fun _ => fun
  | [d] => { results := [.lit (.bool false)], args := [d] }
  | _ => none }
def FnGroupedMatchesRightToLeftModelWrongFalsely : Prop := fnGroupedMatchesRightToLeftModelRow.holds Try.pinned (OpenSpec.ofChange fnGroupedMatchesRightToLeftModelWrong)

/-- 'zzlaws_root_b1.FnGroupedStripsBackAndCountsCommas': WHATEVER THE INPUT: true; the input reads as it did. -/
def fnGroupedStripsBackAndCountsCommasSpec : ChangeSpec := { name := "fnGroupedStripsBackAndCountsCommas", fn := fun _ => fun
  | [d] => { results := [.lit (.bool true)], args := [d] }
  | _ => none }
def fnGroupedStripsBackAndCountsCommasRow : OpenClaim := { program := "qxb6603189a", sum := "0845ee816e9d134950a8aee1397f32a336b07ad0369520f8f41b8b6523e51bcb", func := "example.com/lachesis/lachesis/zzlaws_root_b1.FnGroupedStripsBackAndCountsCommas", spec := "fnGroupedStripsBackAndCountsCommas", inPlace := ["internal/bytealg.IndexByteString", "internal/bytealg.IndexString"], named := ["internal/bytealg.MaxLen"], apart := false }
def FnGroupedStripsBackAndCountsCommasSaid : Prop := fnGroupedStripsBackAndCountsCommasRow.holds Try.pinned (OpenSpec.ofChange fnGroupedStripsBackAndCountsCommasSpec)

/-- ITS FALSE NEIGHBOUR: 'it returns false'. Refute it at one input. -/
def fnGroupedStripsBackAndCountsCommasWrong : ChangeSpec := { name := "fnGroupedStripsBackAndCountsCommas", fn := fun _ => fun
  | [d] => { results := [.lit (.bool false)], args := [d] }
  | _ => none }
def FnGroupedStripsBackAndCountsCommasWrongFalsely : Prop := fnGroupedStripsBackAndCountsCommasRow.holds Try.pinned (OpenSpec.ofChange fnGroupedStripsBackAndCountsCommasWrong)

/-- 'zzlaws_root_b1.FnGroupedAgreesWithThousands': WHATEVER THE INPUT: true; the input reads as it did. -/
def fnGroupedAgreesWithThousandsSpec : ChangeSpec := { name := "fnGroupedAgreesWithThousands", fn := fun _ => fun
  | [d] => { results := [.lit (.bool true)], args := [d] }
  | _ => none }
def fnGroupedAgreesWithThousandsRow : OpenClaim := { program := "qxb6603189a", sum := "0845ee816e9d134950a8aee1397f32a336b07ad0369520f8f41b8b6523e51bcb", func := "example.com/lachesis/lachesis/zzlaws_root_b1.FnGroupedAgreesWithThousands", spec := "fnGroupedAgreesWithThousands", inPlace := ["internal/bytealg.IndexByteString", "internal/bytealg.IndexString"], recurses := true, named := ["internal/bytealg.MaxLen"], apart := false }
def FnGroupedAgreesWithThousandsSaid : Prop := fnGroupedAgreesWithThousandsRow.holds Try.pinned (OpenSpec.ofChange fnGroupedAgreesWithThousandsSpec)

/-- ITS FALSE NEIGHBOUR: 'it returns false'. Refute it at one input. -/
def fnGroupedAgreesWithThousandsWrong : ChangeSpec := { name := "fnGroupedAgreesWithThousands", fn := fun _ => fun
  | [d] => { results := [.lit (.bool false)], args := [d] }
  | _ => none }
def FnGroupedAgreesWithThousandsWrongFalsely : Prop := fnGroupedAgreesWithThousandsRow.holds Try.pinned (OpenSpec.ofChange fnGroupedAgreesWithThousandsWrong)

/-- 'zzlaws_root_b1.FnEqualFoldMatchesUpperModel': WHATEVER THE INPUT: true; the input reads as it did. -/
def fnEqualFoldMatchesUpperModelSpec : ChangeSpec := { name := "fnEqualFoldMatchesUpperModel", fn := fun _ => fun
  | [d1, d2] => { results := [.lit (.bool true)], args := [d1, d2] }
  | _ => none }
def fnEqualFoldMatchesUpperModelRow : OpenClaim := { program := "qxb6603189a", sum := "0845ee816e9d134950a8aee1397f32a336b07ad0369520f8f41b8b6523e51bcb", func := "example.com/lachesis/lachesis/zzlaws_root_b1.FnEqualFoldMatchesUpperModel", spec := "fnEqualFoldMatchesUpperModel", apart := false }
def FnEqualFoldMatchesUpperModelSaid : Prop := fnEqualFoldMatchesUpperModelRow.holds Try.pinned (OpenSpec.ofChange fnEqualFoldMatchesUpperModelSpec)

/-- ITS FALSE NEIGHBOUR: 'it returns false'. Refute it at one input. -/
def fnEqualFoldMatchesUpperModelWrong : ChangeSpec := { name := "fnEqualFoldMatchesUpperModel", fn := fun _ => fun
  | [d1, d2] => { results := [.lit (.bool false)], args := [d1, d2] }
  | _ => none }
def FnEqualFoldMatchesUpperModelWrongFalsely : Prop := fnEqualFoldMatchesUpperModelRow.holds Try.pinned (OpenSpec.ofChange fnEqualFoldMatchesUpperModelWrong)

/-- 'zzlaws_root_b1.FnEqualFoldIsEquivalence': WHATEVER THE INPUT: true; the input reads as it did. -/
def fnEqualFoldIsEquivalenceSpec : ChangeSpec := { name := "fnEqualFoldIsEquivalence", fn := fun _ => fun
  | [d1, d2, d3] => { results := [.lit (.bool true)], args := [d1, d2, d3] }
  | _ => none }
def fnEqualFoldIsEquivalenceRow : OpenClaim := { program := "qxb6603189a", sum := "0845ee816e9d134950a8aee1397f32a336b07ad0369520f8f41b8b6523e51bcb", func := "example.com/lachesis/lachesis/zzlaws_root_b1.FnEqualFoldIsEquivalence", spec := "fnEqualFoldIsEquivalence", apart := false }
def FnEqualFoldIsEquivalenceSaid : Prop := fnEqualFoldIsEquivalenceRow.holds Try.pinned (OpenSpec.ofChange fnEqualFoldIsEquivalenceSpec)

/-- ITS FALSE NEIGHBOUR: 'it returns false'. Refute it at one input. -/
def fnEqualFoldIsEquivalenceWrong : ChangeSpec := { name := "fnEqualFoldIsEquivalence", fn := fun _ => fun
  | [d1, d2, d3] => { results := [.lit (.bool false)], args := [d1, d2, d3] }
  | _ => none }
def FnEqualFoldIsEquivalenceWrongFalsely : Prop := fnEqualFoldIsEquivalenceRow.holds Try.pinned (OpenSpec.ofChange fnEqualFoldIsEquivalenceWrong)

/-- 'zzlaws_root_b1.FnEqualFoldBlindToCaseOnly': WHATEVER THE INPUT: true; the input reads as it did. -/
def fnEqualFoldBlindToCaseOnlySpec : ChangeSpec := { name := "fnEqualFoldBlindToCaseOnly", fn := fun _ => fun
  | [d1, d2, d3] => { results := [.lit (.bool true)], args := [d1, d2, d3] }
  | _ => none }
def fnEqualFoldBlindToCaseOnlyRow : OpenClaim := { program := "qxb6603189a", sum := "0845ee816e9d134950a8aee1397f32a336b07ad0369520f8f41b8b6523e51bcb", func := "example.com/lachesis/lachesis/zzlaws_root_b1.FnEqualFoldBlindToCaseOnly", spec := "fnEqualFoldBlindToCaseOnly", apart := false }
def FnEqualFoldBlindToCaseOnlySaid : Prop := fnEqualFoldBlindToCaseOnlyRow.holds Try.pinned (OpenSpec.ofChange fnEqualFoldBlindToCaseOnlySpec)

/-- ITS FALSE NEIGHBOUR: 'it returns false'. Refute it at one input. -/
def fnEqualFoldBlindToCaseOnlyWrong : ChangeSpec := { name := "fnEqualFoldBlindToCaseOnly", fn := fun _ => fun
  | [d1, d2, d3] => { results := [.lit (.bool false)], args := [d1, d2, d3] }
  | _ => none }
def FnEqualFoldBlindToCaseOnlyWrongFalsely : Prop := fnEqualFoldBlindToCaseOnlyRow.holds Try.pinned (OpenSpec.ofChange fnEqualFoldBlindToCaseOnlyWrong)

end Rows
end Go.Proofs.Qxb6603189a
