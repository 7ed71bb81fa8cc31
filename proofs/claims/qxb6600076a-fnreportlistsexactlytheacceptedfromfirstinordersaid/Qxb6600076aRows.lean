/-
  No cell of these rows narrows 'for every input' (looked for: loops, veiled, ifaces, maps, wideKeys, modest, calm, conditions, laid).
  DERIVED. THE GIVEN ROWS OF THIS SEAT. 5 by the template 'for every input the law returns true; each argument reads behind the call as it read before'; 0 by the template 'total and deterministic' (their statements: Qxb6600076aTotals.lean).
  GIVEN WITH THE SEED: the statements are not yours to turn. If you find one false, say at which input.
  Laid BY PROGRAM, IN A SANDBOX (cutbox-rows.mjs): the forced cells as the released guide's own fill.sh prints them over the translation ca9a728d78cf2c54… (all of the seat's roots in one cut). By AI agents, Wed Nov 11 2026. No macro, syntax, notation, axiom, sorry.
-/
import Derived.Test.Qxb6600076aChecked
import GoSem.Claim
import GoSem.ClaimJoined
import GoSem.ClaimMapViews
import Derived.JoinedTies
import Derived.KernelRfl
namespace Go.Proofs.Qxb6600076a
/- THE CELL 'sum', in the pinned program and in every row, IS THE sha256 OF THE DUMP (.gsa) THAT Qxb6600076aProg.lean LOADS. Nothing in Lean hashes anything: it is a label: what it is worth is what the hold of that sum in a sandbox is worth. -/
noncomputable def Try.pinned : Pinned := { name := "qxb6600076a", sum := "ca9a728d78cf2c54a20b6315bb44fa9495aa2f8e080a163d7d1542131b676665", checked := Try.checked }
namespace Rows
def none {H : Type} : Left H := { results := [], args := [] }

/-- 'zzlaws_paxos_b1.FnSeqsScriptMatchesDeliveredModel': WHATEVER THE INPUT: true; the input reads as it did. -/
def fnSeqsScriptMatchesDeliveredModelSpec : ChangeSpec := { name := "fnSeqsScriptMatchesDeliveredModel", fn := fun _ => fun
  | [d] => { results := [.lit (.bool true)], args := [d] }
  | _ => none }
def fnSeqsScriptMatchesDeliveredModelRow : OpenClaim := { program := "qxb6600076a", sum := "ca9a728d78cf2c54a20b6315bb44fa9495aa2f8e080a163d7d1542131b676665", func := "example.com/quorate/quorate/zzlaws_paxos_b1.FnSeqsScriptMatchesDeliveredModel", spec := "fnSeqsScriptMatchesDeliveredModel", apart := false }
def FnSeqsScriptMatchesDeliveredModelSaid : Prop := fnSeqsScriptMatchesDeliveredModelRow.holds Try.pinned (OpenSpec.ofChange fnSeqsScriptMatchesDeliveredModelSpec)

/-- ITS FALSE NEIGHBOUR: 'it returns false'. Refute it at one input. -/
def fnSeqsScriptMatchesDeliveredModelWrong : ChangeSpec := { name := "fnSeqsScriptMatchesDeliveredModel", fn := fun _ => fun
  | [d] => { results := [.lit (.bool false)], args := [d] }
  | _ => none }
def FnSeqsScriptMatchesDeliveredModelWrongFalsely : Prop := fnSeqsScriptMatchesDeliveredModelRow.holds Try.pinned (OpenSpec.ofChange fnSeqsScriptMatchesDeliveredModelWrong)

/-- 'zzlaws_paxos_b1.FnReportListsExactlyTheAcceptedFromFirstInOrder': WHATEVER THE INPUT: true; the input reads as it did. -/
def fnReportListsExactlyTheAcceptedFromFirstInOrderSpec : ChangeSpec := { name := "fnReportListsExactlyTheAcceptedFromFirstInOrder", fn := fun _ => fun
  | [d1, d2, d3] => { results := [.lit (.bool true)], args := [d1, d2, d3] }
  | _ => none }
def fnReportListsExactlyTheAcceptedFromFirstInOrderRow : OpenClaim := { program := "qxb6600076a", sum := "ca9a728d78cf2c54a20b6315bb44fa9495aa2f8e080a163d7d1542131b676665", func := "example.com/quorate/quorate/zzlaws_paxos_b1.FnReportListsExactlyTheAcceptedFromFirstInOrder", spec := "fnReportListsExactlyTheAcceptedFromFirstInOrder", recurses := true, apart := false }
def FnReportListsExactlyTheAcceptedFromFirstInOrderSaid : Prop := fnReportListsExactlyTheAcceptedFromFirstInOrderRow.holds Try.pinned (OpenSpec.ofChange fnReportListsExactlyTheAcceptedFromFirstInOrderSpec)

/-- ITS FALSE NEIGHBOUR: 'it returns false'. Refute it at one input. -/
def fnReportListsExactlyTheAcceptedFromFirstInOrderWrong : ChangeSpec := { name := "fnReportListsExactlyTheAcceptedFromFirstInOrder", fn := fun _ => fun
  | [d1, d2, d3] => { results := [.lit (.bool false)], args := [d1, d2, d3] }
  | _ => none }
def FnReportListsExactlyTheAcceptedFromFirstInOrderWrongFalsely : Prop := fnReportListsExactlyTheAcceptedFromFirstInOrderRow.holds Try.pinned (OpenSpec.ofChange fnReportListsExactlyTheAcceptedFromFirstInOrderWrong)

/-- 'zzlaws_paxos_b1.FnOneChangeApartMatchesSortedMerge': WHATEVER THE INPUT: true; the input reads as it did. -/
def fnOneChangeApartMatchesSortedMergeSpec : ChangeSpec := { name := "fnOneChangeApartMatchesSortedMerge", fn := fun _ => fun
  | [d1, d2] => { results := [.lit (.bool true)], args := [d1, d2] }
  | _ => none }
def fnOneChangeApartMatchesSortedMergeRow : OpenClaim := { program := "qxb6600076a", sum := "ca9a728d78cf2c54a20b6315bb44fa9495aa2f8e080a163d7d1542131b676665", func := "example.com/quorate/quorate/zzlaws_paxos_b1.FnOneChangeApartMatchesSortedMerge", spec := "fnOneChangeApartMatchesSortedMerge", apart := false }
def FnOneChangeApartMatchesSortedMergeSaid : Prop := fnOneChangeApartMatchesSortedMergeRow.holds Try.pinned (OpenSpec.ofChange fnOneChangeApartMatchesSortedMergeSpec)

/-- ITS FALSE NEIGHBOUR: 'it returns false'. Refute it at one input. -/
def fnOneChangeApartMatchesSortedMergeWrong : ChangeSpec := { name := "fnOneChangeApartMatchesSortedMerge", fn := fun _ => fun
  | [d1, d2] => { results := [.lit (.bool false)], args := [d1, d2] }
  | _ => none }
def FnOneChangeApartMatchesSortedMergeWrongFalsely : Prop := fnOneChangeApartMatchesSortedMergeRow.holds Try.pinned (OpenSpec.ofChange fnOneChangeApartMatchesSortedMergeWrong)

/-- 'zzlaws_paxos_b1.FnOneChangeApartAcceptsOneChangeRefusesTwo': WHATEVER THE INPUT: true; the input reads as it did. -/
def fnOneChangeApartAcceptsOneChangeRefusesTwoSpec : ChangeSpec := { name := "fnOneChangeApartAcceptsOneChangeRefusesTwo", fn := fun _ => fun
  | [d1, d2, d3, d4] => { results := [.lit (.bool true)], args := [d1, d2, d3, d4] }
  | _ => none }
def fnOneChangeApartAcceptsOneChangeRefusesTwoRow : OpenClaim := { program := "qxb6600076a", sum := "ca9a728d78cf2c54a20b6315bb44fa9495aa2f8e080a163d7d1542131b676665", func := "example.com/quorate/quorate/zzlaws_paxos_b1.FnOneChangeApartAcceptsOneChangeRefusesTwo", spec := "fnOneChangeApartAcceptsOneChangeRefusesTwo", apart := false }
def FnOneChangeApartAcceptsOneChangeRefusesTwoSaid : Prop := fnOneChangeApartAcceptsOneChangeRefusesTwoRow.holds Try.pinned (OpenSpec.ofChange fnOneChangeApartAcceptsOneChangeRefusesTwoSpec)

/-- ITS FALSE NEIGHBOUR: 'it returns false'. Refute it at one input. -/
def fnOneChangeApartAcceptsOneChangeRefusesTwoWrong : ChangeSpec := { name := "fnOneChangeApartAcceptsOneChangeRefusesTwo", fn := fun _ => fun
  | [d1, d2, d3, d4] => { results := [.lit (.bool false)], args := [d1, d2, d3, d4] }
  | _ => none }
def FnOneChangeApartAcceptsOneChangeRefusesTwoWrongFalsely : Prop := fnOneChangeApartAcceptsOneChangeRefusesTwoRow.holds Try.pinned (OpenSpec.ofChange fnOneChangeApartAcceptsOneChangeRefusesTwoWrong)

/-- 'zzlaws_paxos_b1.FnSeqsAddKeepsWindowAndForgetsNothing': WHATEVER THE INPUT: true; the input reads as it did. -/
def fnSeqsAddKeepsWindowAndForgetsNothingSpec : ChangeSpec := { name := "fnSeqsAddKeepsWindowAndForgetsNothing", fn := fun _ => fun
  | [d1, d2, d3] => { results := [.lit (.bool true)], args := [d1, d2, d3] }
  | _ => none }
def fnSeqsAddKeepsWindowAndForgetsNothingRow : OpenClaim := { program := "qxb6600076a", sum := "ca9a728d78cf2c54a20b6315bb44fa9495aa2f8e080a163d7d1542131b676665", func := "example.com/quorate/quorate/zzlaws_paxos_b1.FnSeqsAddKeepsWindowAndForgetsNothing", spec := "fnSeqsAddKeepsWindowAndForgetsNothing", apart := false }
def FnSeqsAddKeepsWindowAndForgetsNothingSaid : Prop := fnSeqsAddKeepsWindowAndForgetsNothingRow.holds Try.pinned (OpenSpec.ofChange fnSeqsAddKeepsWindowAndForgetsNothingSpec)

/-- ITS FALSE NEIGHBOUR: 'it returns false'. Refute it at one input. -/
def fnSeqsAddKeepsWindowAndForgetsNothingWrong : ChangeSpec := { name := "fnSeqsAddKeepsWindowAndForgetsNothing", fn := fun _ => fun
  | [d1, d2, d3] => { results := [.lit (.bool false)], args := [d1, d2, d3] }
  | _ => none }
def FnSeqsAddKeepsWindowAndForgetsNothingWrongFalsely : Prop := fnSeqsAddKeepsWindowAndForgetsNothingRow.holds Try.pinned (OpenSpec.ofChange fnSeqsAddKeepsWindowAndForgetsNothingWrong)

end Rows
end Go.Proofs.Qxb6600076a
