/-
  No cell of these rows narrows 'for every input' (looked for: loops, veiled, ifaces, maps, wideKeys, modest, calm, conditions, laid).
  DERIVED. THE GIVEN ROWS OF THIS SEAT. 3 by the template 'for every input the law returns true; each argument reads behind the call as it read before'; 0 by the template 'total and deterministic' (their statements: Qxb6002364aTotals.lean).
  GIVEN WITH THE SEED: the statements are not yours to turn. If you find one false, say at which input.
  Laid BY PROGRAM, IN A SANDBOX (cutbox-rows.mjs): the forced cells as the released guide's own fill.sh prints them over the translation fd90eaa180997035… (all of the seat's roots in one cut). By AI agents, Wed Nov 11 2026. No macro, syntax, notation, axiom, sorry.
-/
import Derived.Test.Qxb6002364aChecked
import GoSem.Claim
import GoSem.ClaimJoined
import GoSem.ClaimMapViews
import Derived.JoinedTies
import Derived.KernelRfl
namespace Go.Proofs.Qxb6002364a
/- THE CELL 'sum', in the pinned program and in every row, IS THE sha256 OF THE DUMP (.gsa) THAT Qxb6002364aProg.lean LOADS. Nothing in Lean hashes anything: it is a label: what it is worth is what the hold of that sum in a sandbox is worth. -/
noncomputable def Try.pinned : Pinned := { name := "qxb6002364a", sum := "fd90eaa1809970352e7a1fff3fa94d7cd90d1e86c6590081fcc48e09bdb01426", checked := Try.checked }
namespace Rows
def none {H : Type} : Left H := { results := [], args := [] }

/-- 'zzlaws_internal_program_g1.FnTargetsNamesFixedLinesInOrder': WHATEVER THE INPUT: true; the input reads as it did. -/
def fnTargetsNamesFixedLinesInOrderSpec : ChangeSpec := { name := "fnTargetsNamesFixedLinesInOrder", fn := fun _ => fun
  | [d1, d2, d3] => { results := [.lit (.bool true)], args := [d1, d2, d3] }
  | _ => none }
def fnTargetsNamesFixedLinesInOrderRow : OpenClaim := { program := "qxb6002364a", sum := "fd90eaa1809970352e7a1fff3fa94d7cd90d1e86c6590081fcc48e09bdb01426", func := "example.com/dialecta/dialecta/zzlaws_internal_program_g1.FnTargetsNamesFixedLinesInOrder", spec := "fnTargetsNamesFixedLinesInOrder", recurses := true, apart := false }
def FnTargetsNamesFixedLinesInOrderSaid : Prop := fnTargetsNamesFixedLinesInOrderRow.holds Try.pinned (OpenSpec.ofChange fnTargetsNamesFixedLinesInOrderSpec)

/-- ITS FALSE NEIGHBOUR: 'it returns false'. Refute it at one input. -/
def fnTargetsNamesFixedLinesInOrderWrong : ChangeSpec := { name := "fnTargetsNamesFixedLinesInOrder", fn := fun _ => fun
  | [d1, d2, d3] => { results := [.lit (.bool false)], args := [d1, d2, d3] }
  | _ => none }
def FnTargetsNamesFixedLinesInOrderWrongFalsely : Prop := fnTargetsNamesFixedLinesInOrderRow.holds Try.pinned (OpenSpec.ofChange fnTargetsNamesFixedLinesInOrderWrong)

/-- 'zzlaws_internal_syntax_g1.FnListReadsBackJoinedWords': WHATEVER THE INPUT: true; the input reads as it did. -/
def fnListReadsBackJoinedWordsSpec : ChangeSpec := { name := "fnListReadsBackJoinedWords", fn := fun _ => fun
  | [d1, d2, d3] => { results := [.lit (.bool true)], args := [d1, d2, d3] }
  | _ => none }
def fnListReadsBackJoinedWordsRow : OpenClaim := { program := "qxb6002364a", sum := "fd90eaa1809970352e7a1fff3fa94d7cd90d1e86c6590081fcc48e09bdb01426", func := "example.com/dialecta/dialecta/zzlaws_internal_syntax_g1.FnListReadsBackJoinedWords", spec := "fnListReadsBackJoinedWords", unfollowed := true, recurses := true, apart := false }
def FnListReadsBackJoinedWordsSaid : Prop := fnListReadsBackJoinedWordsRow.holds Try.pinned (OpenSpec.ofChange fnListReadsBackJoinedWordsSpec)

/-- ITS FALSE NEIGHBOUR: 'it returns false'. Refute it at one input. -/
def fnListReadsBackJoinedWordsWrong : ChangeSpec := { name := "fnListReadsBackJoinedWords", fn := fun _ => fun
  | [d1, d2, d3] => { results := [.lit (.bool false)], args := [d1, d2, d3] }
  | _ => none }
def FnListReadsBackJoinedWordsWrongFalsely : Prop := fnListReadsBackJoinedWordsRow.holds Try.pinned (OpenSpec.ofChange fnListReadsBackJoinedWordsWrong)

/-- 'zzlaws_internal_syntax_g1.FnListStopsAtFirstRefusedItem': WHATEVER THE INPUT: true; the input reads as it did. -/
def fnListStopsAtFirstRefusedItemSpec : ChangeSpec := { name := "fnListStopsAtFirstRefusedItem", fn := fun _ => fun
  | [d1, d2] => { results := [.lit (.bool true)], args := [d1, d2] }
  | _ => none }
def fnListStopsAtFirstRefusedItemRow : OpenClaim := { program := "qxb6002364a", sum := "fd90eaa1809970352e7a1fff3fa94d7cd90d1e86c6590081fcc48e09bdb01426", func := "example.com/dialecta/dialecta/zzlaws_internal_syntax_g1.FnListStopsAtFirstRefusedItem", spec := "fnListStopsAtFirstRefusedItem", unfollowed := true, recurses := true, apart := false }
def FnListStopsAtFirstRefusedItemSaid : Prop := fnListStopsAtFirstRefusedItemRow.holds Try.pinned (OpenSpec.ofChange fnListStopsAtFirstRefusedItemSpec)

/-- ITS FALSE NEIGHBOUR: 'it returns false'. Refute it at one input. -/
def fnListStopsAtFirstRefusedItemWrong : ChangeSpec := { name := "fnListStopsAtFirstRefusedItem", fn := fun _ => fun
  | [d1, d2] => { results := [.lit (.bool false)], args := [d1, d2] }
  | _ => none }
def FnListStopsAtFirstRefusedItemWrongFalsely : Prop := fnListStopsAtFirstRefusedItemRow.holds Try.pinned (OpenSpec.ofChange fnListStopsAtFirstRefusedItemWrong)

end Rows
end Go.Proofs.Qxb6002364a
