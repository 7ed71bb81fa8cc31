/-
  No cell of these rows narrows 'for every input' (looked for: loops, veiled, ifaces, maps, wideKeys, modest, calm, conditions, laid).
  DERIVED. THE GIVEN ROWS OF THIS SEAT. 5 by the template 'for every input the law returns true; each argument reads behind the call as it read before'; 0 by the template 'total and deterministic' (their statements: Qxb6600295aTotals.lean).
  GIVEN WITH THE SEED: the statements are not yours to turn. If you find one false, say at which input.
  Laid BY PROGRAM, IN A SANDBOX (cutbox-rows.mjs): the forced cells as the released guide's own fill.sh prints them over the translation 3226a857d9c90bed… (all of the seat's roots in one cut). By AI agents, Wed Nov 11 2026. No macro, syntax, notation, axiom, sorry.
-/
import Derived.Test.Qxb6600295aChecked
import GoSem.Claim
import GoSem.ClaimJoined
import GoSem.ClaimMapViews
import Derived.JoinedTies
import Derived.KernelRfl
namespace Go.Proofs.Qxb6600295a
/- THE CELL 'sum', in the pinned program and in every row, IS THE sha256 OF THE DUMP (.gsa) THAT Qxb6600295aProg.lean LOADS. Nothing in Lean hashes anything: it is a label: what it is worth is what the hold of that sum in a sandbox is worth. -/
noncomputable def Try.pinned : Pinned := { name := "qxb6600295a", sum := "3226a857d9c90bed6a4ae7752a09105eb4a24e761c18298da852fe0958a6d03b", checked := Try.checked }
namespace Rows
def none {H : Type} : Left H := { results := [], args := [] }

/-- 'zzlaws_internal_storekit_b1.FnURLPartsStringRoundTrip': WHATEVER THE INPUT: true; the input reads as it did. -/
def fnURLPartsStringRoundTripSpec : ChangeSpec := { name := "fnURLPartsStringRoundTrip", fn := fun _ => fun
  | [d1, d2, d3, d4, d5, d6, d7, d8, d9, d10] => { results := [.lit (.bool true)], args := [d1, d2, d3, d4, d5, d6, d7, d8, d9, d10] }
  | _ => none }
def fnURLPartsStringRoundTripRow : OpenClaim := { program := "qxb6600295a", sum := "3226a857d9c90bed6a4ae7752a09105eb4a24e761c18298da852fe0958a6d03b", func := "example.com/lease-keeper/lease-keeper/zzlaws_internal_storekit_b1.FnURLPartsStringRoundTrip", spec := "fnURLPartsStringRoundTrip", inPlace := ["internal/abi.NoEscape"], apart := false }
def FnURLPartsStringRoundTripSaid : Prop := fnURLPartsStringRoundTripRow.holds Try.pinned (OpenSpec.ofChange fnURLPartsStringRoundTripSpec)

/-- ITS FALSE NEIGHBOUR: 'it returns false'. Refute it at one input. -/
def fnURLPartsStringRoundTripWrong : ChangeSpec := { name := "fnURLPartsStringRoundTrip", fn := fun _ => fun
  | [d1, d2, d3, d4, d5, d6, d7, d8, d9, d10] => { results := [.lit (.bool false)], args := [d1, d2, d3, d4, d5, d6, d7, d8, d9, d10] }
  | _ => none }
def FnURLPartsStringRoundTripWrongFalsely : Prop := fnURLPartsStringRoundTripRow.holds Try.pinned (OpenSpec.ofChange fnURLPartsStringRoundTripWrong)

/-- 'zzlaws_internal_storekit_b1.FnURLPartsStringIgnoresUnflaggedParts': WHATEVER THE INPUT: true; the input reads as it did. -/
def fnURLPartsStringIgnoresUnflaggedPartsSpec : ChangeSpec := { name := "fnURLPartsStringIgnoresUnflaggedParts", fn := fun _ => fun
  | [d1, d2, d3, d4, d5, d6, d7, d8, d9, d10] => { results := [.lit (.bool true)], args := [d1, d2, d3, d4, d5, d6, d7, d8, d9, d10] }
  | _ => none }
def fnURLPartsStringIgnoresUnflaggedPartsRow : OpenClaim := { program := "qxb6600295a", sum := "3226a857d9c90bed6a4ae7752a09105eb4a24e761c18298da852fe0958a6d03b", func := "example.com/lease-keeper/lease-keeper/zzlaws_internal_storekit_b1.FnURLPartsStringIgnoresUnflaggedParts", spec := "fnURLPartsStringIgnoresUnflaggedParts", inPlace := ["internal/abi.NoEscape"], apart := false }
def FnURLPartsStringIgnoresUnflaggedPartsSaid : Prop := fnURLPartsStringIgnoresUnflaggedPartsRow.holds Try.pinned (OpenSpec.ofChange fnURLPartsStringIgnoresUnflaggedPartsSpec)

/-- ITS FALSE NEIGHBOUR: 'it returns false'. Refute it at one input. -/
def fnURLPartsStringIgnoresUnflaggedPartsWrong : ChangeSpec := { name := "fnURLPartsStringIgnoresUnflaggedParts", fn := fun _ => fun
  | [d1, d2, d3, d4, d5, d6, d7, d8, d9, d10] => { results := [.lit (.bool false)], args := [d1, d2, d3, d4, d5, d6, d7, d8, d9, d10] }
  | _ => none }
def FnURLPartsStringIgnoresUnflaggedPartsWrongFalsely : Prop := fnURLPartsStringIgnoresUnflaggedPartsRow.holds Try.pinned (OpenSpec.ofChange fnURLPartsStringIgnoresUnflaggedPartsWrong)

/-- 'zzlaws_internal_storekit_b1.FnDistinctKeepsFirstOccurrencesInOrder': WHATEVER THE INPUT: true; the input reads as it did. -/
def fnDistinctKeepsFirstOccurrencesInOrderSpec : ChangeSpec := { name := "fnDistinctKeepsFirstOccurrencesInOrder", fn := fun _ => fun
  | [d] => { results := [.lit (.bool true)], args := [d] }
  | _ => none }
def fnDistinctKeepsFirstOccurrencesInOrderRow : OpenClaim := { program := "qxb6600295a", sum := "3226a857d9c90bed6a4ae7752a09105eb4a24e761c18298da852fe0958a6d03b", func := "example.com/lease-keeper/lease-keeper/zzlaws_internal_storekit_b1.FnDistinctKeepsFirstOccurrencesInOrder", spec := "fnDistinctKeepsFirstOccurrencesInOrder", apart := false }
def FnDistinctKeepsFirstOccurrencesInOrderSaid : Prop := fnDistinctKeepsFirstOccurrencesInOrderRow.holds Try.pinned (OpenSpec.ofChange fnDistinctKeepsFirstOccurrencesInOrderSpec)

/-- ITS FALSE NEIGHBOUR: 'it returns false'. Refute it at one input. -/
def fnDistinctKeepsFirstOccurrencesInOrderWrong : ChangeSpec := { name := "fnDistinctKeepsFirstOccurrencesInOrder", fn := fun _ => fun
  | [d] => { results := [.lit (.bool false)], args := [d] }
  | _ => none }
def FnDistinctKeepsFirstOccurrencesInOrderWrongFalsely : Prop := fnDistinctKeepsFirstOccurrencesInOrderRow.holds Try.pinned (OpenSpec.ofChange fnDistinctKeepsFirstOccurrencesInOrderWrong)

/-- 'zzlaws_internal_storekit_b1.FnDistinctIdempotent': WHATEVER THE INPUT: true; the input reads as it did. -/
def fnDistinctIdempotentSpec : ChangeSpec := { name := "fnDistinctIdempotent", fn := fun _ => fun
  | [d] => { results := [.lit (.bool true)], args := [d] }
  | _ => none }
def fnDistinctIdempotentRow : OpenClaim := { program := "qxb6600295a", sum := "3226a857d9c90bed6a4ae7752a09105eb4a24e761c18298da852fe0958a6d03b", func := "example.com/lease-keeper/lease-keeper/zzlaws_internal_storekit_b1.FnDistinctIdempotent", spec := "fnDistinctIdempotent", apart := false }
def FnDistinctIdempotentSaid : Prop := fnDistinctIdempotentRow.holds Try.pinned (OpenSpec.ofChange fnDistinctIdempotentSpec)

/-- ITS FALSE NEIGHBOUR: 'it returns false'. Refute it at one input. -/
def fnDistinctIdempotentWrong : ChangeSpec := { name := "fnDistinctIdempotent", fn := fun _ => fun
  | [d] => { results := [.lit (.bool false)], args := [d] }
  | _ => none }
def FnDistinctIdempotentWrongFalsely : Prop := fnDistinctIdempotentRow.holds Try.pinned (OpenSpec.ofChange fnDistinctIdempotentWrong)

/-- 'zzlaws_internal_storekit_b1.FnDistinctOfPrefixIsPrefix': WHATEVER THE INPUT: true; the input reads as it did. -/
def fnDistinctOfPrefixIsPrefixSpec : ChangeSpec := { name := "fnDistinctOfPrefixIsPrefix", fn := fun _ => fun
  | [d1, d2] => { results := [.lit (.bool true)], args := [d1, d2] }
  | _ => none }
def fnDistinctOfPrefixIsPrefixRow : OpenClaim := { program := "qxb6600295a", sum := "3226a857d9c90bed6a4ae7752a09105eb4a24e761c18298da852fe0958a6d03b", func := "example.com/lease-keeper/lease-keeper/zzlaws_internal_storekit_b1.FnDistinctOfPrefixIsPrefix", spec := "fnDistinctOfPrefixIsPrefix", apart := false }
def FnDistinctOfPrefixIsPrefixSaid : Prop := fnDistinctOfPrefixIsPrefixRow.holds Try.pinned (OpenSpec.ofChange fnDistinctOfPrefixIsPrefixSpec)

/-- ITS FALSE NEIGHBOUR: 'it returns false'. Refute it at one input. -/
def fnDistinctOfPrefixIsPrefixWrong : ChangeSpec := { name := "fnDistinctOfPrefixIsPrefix", fn := fun _ => fun
  | [d1, d2] => { results := [.lit (.bool false)], args := [d1, d2] }
  | _ => none }
def FnDistinctOfPrefixIsPrefixWrongFalsely : Prop := fnDistinctOfPrefixIsPrefixRow.holds Try.pinned (OpenSpec.ofChange fnDistinctOfPrefixIsPrefixWrong)

end Rows
end Go.Proofs.Qxb6600295a
