/-
  No cell of these rows narrows 'for every input' (looked for: loops, veiled, ifaces, maps, wideKeys, modest, calm, conditions, laid).
  DERIVED. THE GIVEN ROWS OF THIS SEAT. 7 by the template 'for every input the law returns true; each argument reads behind the call as it read before'; 0 by the template 'total and deterministic' (their statements: Qxb6601063aTotals.lean).
  GIVEN WITH THE SEED: the statements are not yours to turn. If you find one false, say at which input.
  Laid BY PROGRAM, IN A SANDBOX (cutbox-rows.mjs): the forced cells as the released guide's own fill.sh prints them over the translation 6c592926f96af7ed… (all of the seat's roots in one cut). By AI agents, Wed Nov 11 2026. No macro, syntax, notation, axiom, sorry.
-/
import Derived.Test.Qxb6601063aChecked
import GoSem.Claim
import GoSem.ClaimJoined
import GoSem.ClaimMapViews
import Derived.JoinedTies
import Derived.KernelRfl
namespace Go.Proofs.Qxb6601063a
/- THE CELL 'sum', in the pinned program and in every row, IS THE sha256 OF THE DUMP (.gsa) THAT Qxb6601063aProg.lean LOADS. Nothing in Lean hashes anything: it is a label: what it is worth is what the hold of that sum in a sandbox is worth. -/
noncomputable def Try.pinned : Pinned := { name := "qxb6601063a", sum := "6c592926f96af7ed6acb0f70897177fbb5a30c013bf5a7e599850dc7de639644", checked := Try.checked }
namespace Rows
def none {H : Type} : Left H := { results := [], args := [] }

/-- 'zzlaws_internal_watcher_b1.FnMatchGlobAgreesWithAutomaton': WHATEVER THE INPUT: true; the input reads as it did. -/
def fnMatchGlobAgreesWithAutomatonSpec : ChangeSpec := { name := "fnMatchGlobAgreesWithAutomaton", fn := fun _ => fun
  | [d1, d2] => { results := [.lit (.bool true)], args := [d1, d2] }
  | _ => none }
def fnMatchGlobAgreesWithAutomatonRow : OpenClaim := { program := "qxb6601063a", sum := "6c592926f96af7ed6acb0f70897177fbb5a30c013bf5a7e599850dc7de639644", func := "example.com/tidewatch/tidewatch/zzlaws_internal_watcher_b1.FnMatchGlobAgreesWithAutomaton", spec := "fnMatchGlobAgreesWithAutomaton", apart := false }
def FnMatchGlobAgreesWithAutomatonSaid : Prop := fnMatchGlobAgreesWithAutomatonRow.holds Try.pinned (OpenSpec.ofChange fnMatchGlobAgreesWithAutomatonSpec)

/-- ITS FALSE NEIGHBOUR: 'it returns false'. Refute it at one input. -/
def fnMatchGlobAgreesWithAutomatonWrong : ChangeSpec := { name := "fnMatchGlobAgreesWithAutomaton", fn := fun _ => fun
  | [d1, d2] => { results := [.lit (.bool false)], args := [d1, d2] }
  | _ => none }
def FnMatchGlobAgreesWithAutomatonWrongFalsely : Prop := fnMatchGlobAgreesWithAutomatonRow.holds Try.pinned (OpenSpec.ofChange fnMatchGlobAgreesWithAutomatonWrong)

/-- 'zzlaws_internal_watcher_b1.FnMatchGlobEscapedMatchesOnlyItself': WHATEVER THE INPUT: true; the input reads as it did. -/
def fnMatchGlobEscapedMatchesOnlyItselfSpec : ChangeSpec := { name := "fnMatchGlobEscapedMatchesOnlyItself", fn := fun _ => fun
  | [d1, d2] => { results := [.lit (.bool true)], args := [d1, d2] }
  | _ => none }
def fnMatchGlobEscapedMatchesOnlyItselfRow : OpenClaim := { program := "qxb6601063a", sum := "6c592926f96af7ed6acb0f70897177fbb5a30c013bf5a7e599850dc7de639644", func := "example.com/tidewatch/tidewatch/zzlaws_internal_watcher_b1.FnMatchGlobEscapedMatchesOnlyItself", spec := "fnMatchGlobEscapedMatchesOnlyItself", apart := false }
def FnMatchGlobEscapedMatchesOnlyItselfSaid : Prop := fnMatchGlobEscapedMatchesOnlyItselfRow.holds Try.pinned (OpenSpec.ofChange fnMatchGlobEscapedMatchesOnlyItselfSpec)

/-- ITS FALSE NEIGHBOUR: 'it returns false'. Refute it at one input. -/
def fnMatchGlobEscapedMatchesOnlyItselfWrong : ChangeSpec := { name := "fnMatchGlobEscapedMatchesOnlyItself", fn := fun _ => fun
  | [d1, d2] => { results := [.lit (.bool false)], args := [d1, d2] }
  | _ => none }
def FnMatchGlobEscapedMatchesOnlyItselfWrongFalsely : Prop := fnMatchGlobEscapedMatchesOnlyItselfRow.holds Try.pinned (OpenSpec.ofChange fnMatchGlobEscapedMatchesOnlyItselfWrong)

/-- 'zzlaws_internal_watcher_b1.FnMatchGlobLeadingStarAbsorbs': WHATEVER THE INPUT: true; the input reads as it did. -/
def fnMatchGlobLeadingStarAbsorbsSpec : ChangeSpec := { name := "fnMatchGlobLeadingStarAbsorbs", fn := fun _ => fun
  | [d1, d2, d3] => { results := [.lit (.bool true)], args := [d1, d2, d3] }
  | _ => none }
def fnMatchGlobLeadingStarAbsorbsRow : OpenClaim := { program := "qxb6601063a", sum := "6c592926f96af7ed6acb0f70897177fbb5a30c013bf5a7e599850dc7de639644", func := "example.com/tidewatch/tidewatch/zzlaws_internal_watcher_b1.FnMatchGlobLeadingStarAbsorbs", spec := "fnMatchGlobLeadingStarAbsorbs", apart := false }
def FnMatchGlobLeadingStarAbsorbsSaid : Prop := fnMatchGlobLeadingStarAbsorbsRow.holds Try.pinned (OpenSpec.ofChange fnMatchGlobLeadingStarAbsorbsSpec)

/-- ITS FALSE NEIGHBOUR: 'it returns false'. Refute it at one input. -/
def fnMatchGlobLeadingStarAbsorbsWrong : ChangeSpec := { name := "fnMatchGlobLeadingStarAbsorbs", fn := fun _ => fun
  | [d1, d2, d3] => { results := [.lit (.bool false)], args := [d1, d2, d3] }
  | _ => none }
def FnMatchGlobLeadingStarAbsorbsWrongFalsely : Prop := fnMatchGlobLeadingStarAbsorbsRow.holds Try.pinned (OpenSpec.ofChange fnMatchGlobLeadingStarAbsorbsWrong)

/-- 'zzlaws_internal_watcher_b1.FnMatchByteOnBuiltSet': WHATEVER THE INPUT: true; the input reads as it did. -/
def fnMatchByteOnBuiltSetSpec : ChangeSpec := { name := "fnMatchByteOnBuiltSet", fn := fun _ => fun
  | [d1, d2, d3, d4] => { results := [.lit (.bool true)], args := [d1, d2, d3, d4] }
  | _ => none }
def fnMatchByteOnBuiltSetRow : OpenClaim := { program := "qxb6601063a", sum := "6c592926f96af7ed6acb0f70897177fbb5a30c013bf5a7e599850dc7de639644", func := "example.com/tidewatch/tidewatch/zzlaws_internal_watcher_b1.FnMatchByteOnBuiltSet", spec := "fnMatchByteOnBuiltSet", apart := false }
def FnMatchByteOnBuiltSetSaid : Prop := fnMatchByteOnBuiltSetRow.holds Try.pinned (OpenSpec.ofChange fnMatchByteOnBuiltSetSpec)

/-- ITS FALSE NEIGHBOUR: 'it returns false'. Refute it at one input. -/
def fnMatchByteOnBuiltSetWrong : ChangeSpec := { name := "fnMatchByteOnBuiltSet", fn := fun _ => fun
  | [d1, d2, d3, d4] => { results := [.lit (.bool false)], args := [d1, d2, d3, d4] }
  | _ => none }
def FnMatchByteOnBuiltSetWrongFalsely : Prop := fnMatchByteOnBuiltSetRow.holds Try.pinned (OpenSpec.ofChange fnMatchByteOnBuiltSetWrong)

/-- 'zzlaws_internal_watcher_b1.FnMatchByteWidthIsOfPatternAlone': WHATEVER THE INPUT: true; the input reads as it did. -/
def fnMatchByteWidthIsOfPatternAloneSpec : ChangeSpec := { name := "fnMatchByteWidthIsOfPatternAlone", fn := fun _ => fun
  | [d1, d2, d3] => { results := [.lit (.bool true)], args := [d1, d2, d3] }
  | _ => none }
def fnMatchByteWidthIsOfPatternAloneRow : OpenClaim := { program := "qxb6601063a", sum := "6c592926f96af7ed6acb0f70897177fbb5a30c013bf5a7e599850dc7de639644", func := "example.com/tidewatch/tidewatch/zzlaws_internal_watcher_b1.FnMatchByteWidthIsOfPatternAlone", spec := "fnMatchByteWidthIsOfPatternAlone", apart := false }
def FnMatchByteWidthIsOfPatternAloneSaid : Prop := fnMatchByteWidthIsOfPatternAloneRow.holds Try.pinned (OpenSpec.ofChange fnMatchByteWidthIsOfPatternAloneSpec)

/-- ITS FALSE NEIGHBOUR: 'it returns false'. Refute it at one input. -/
def fnMatchByteWidthIsOfPatternAloneWrong : ChangeSpec := { name := "fnMatchByteWidthIsOfPatternAlone", fn := fun _ => fun
  | [d1, d2, d3] => { results := [.lit (.bool false)], args := [d1, d2, d3] }
  | _ => none }
def FnMatchByteWidthIsOfPatternAloneWrongFalsely : Prop := fnMatchByteWidthIsOfPatternAloneRow.holds Try.pinned (OpenSpec.ofChange fnMatchByteWidthIsOfPatternAloneWrong)

/-- 'zzlaws_internal_watcher_b1.FnInSetItemsModel': WHATEVER THE INPUT: true; the input reads as it did. -/
def fnInSetItemsModelSpec : ChangeSpec := { name := "fnInSetItemsModel", fn := fun _ => fun
  | [d1, d2, d3, d4, d5] => { results := [.lit (.bool true)], args := [d1, d2, d3, d4, d5] }
  | _ => none }
def fnInSetItemsModelRow : OpenClaim := { program := "qxb6601063a", sum := "6c592926f96af7ed6acb0f70897177fbb5a30c013bf5a7e599850dc7de639644", func := "example.com/tidewatch/tidewatch/zzlaws_internal_watcher_b1.FnInSetItemsModel", spec := "fnInSetItemsModel", apart := false }
def FnInSetItemsModelSaid : Prop := fnInSetItemsModelRow.holds Try.pinned (OpenSpec.ofChange fnInSetItemsModelSpec)

/-- ITS FALSE NEIGHBOUR: 'it returns false'. Refute it at one input. -/
def fnInSetItemsModelWrong : ChangeSpec := { name := "fnInSetItemsModel", fn := fun _ => fun
  | [d1, d2, d3, d4, d5] => { results := [.lit (.bool false)], args := [d1, d2, d3, d4, d5] }
  | _ => none }
def FnInSetItemsModelWrongFalsely : Prop := fnInSetItemsModelRow.holds Try.pinned (OpenSpec.ofChange fnInSetItemsModelWrong)

/-- 'zzlaws_internal_watcher_b1.FnInSetAppendAddsOneByte': WHATEVER THE INPUT: true; the input reads as it did. -/
def fnInSetAppendAddsOneByteSpec : ChangeSpec := { name := "fnInSetAppendAddsOneByte", fn := fun _ => fun
  | [d1, d2, d3] => { results := [.lit (.bool true)], args := [d1, d2, d3] }
  | _ => none }
def fnInSetAppendAddsOneByteRow : OpenClaim := { program := "qxb6601063a", sum := "6c592926f96af7ed6acb0f70897177fbb5a30c013bf5a7e599850dc7de639644", func := "example.com/tidewatch/tidewatch/zzlaws_internal_watcher_b1.FnInSetAppendAddsOneByte", spec := "fnInSetAppendAddsOneByte", apart := false }
def FnInSetAppendAddsOneByteSaid : Prop := fnInSetAppendAddsOneByteRow.holds Try.pinned (OpenSpec.ofChange fnInSetAppendAddsOneByteSpec)

/-- ITS FALSE NEIGHBOUR: 'it returns false'. Refute it at one input. -/
def fnInSetAppendAddsOneByteWrong : ChangeSpec := { name := "fnInSetAppendAddsOneByte", fn := fun _ => fun
  | [d1, d2, d3] => { results := [.lit (.bool false)], args := [d1, d2, d3] }
  | _ => none }
def FnInSetAppendAddsOneByteWrongFalsely : Prop := fnInSetAppendAddsOneByteRow.holds Try.pinned (OpenSpec.ofChange fnInSetAppendAddsOneByteWrong)

end Rows
end Go.Proofs.Qxb6601063a
