/-
  No cell of these rows narrows 'for every input' (looked for: loops, veiled, ifaces, maps, wideKeys, modest, calm, conditions, laid).
  DERIVED. THE GIVEN ROWS OF THIS SEAT. 2 by the template 'for every input the law returns true; each argument reads behind the call as it read before'; 0 by the template 'total and deterministic' (their statements: Qxb6603309aTotals.lean).
  GIVEN WITH THE SEED: the statements are not yours to turn. If you find one false, say at which input.
  Laid BY PROGRAM, IN A SANDBOX (cutbox-rows.mjs): the forced cells as the released guide's own fill.sh prints them over the translation 75ec4037fd8905b5… (all of the seat's roots in one cut). By AI agents, Wed Nov 11 2026. No macro, syntax, notation, axiom, sorry.
-/
import Derived.Test.Qxb6603309aChecked
import GoSem.Claim
import GoSem.ClaimJoined
import GoSem.ClaimMapViews
import Derived.JoinedTies
import Derived.KernelRfl
namespace Go.Proofs.Qxb6603309a
/- THE CELL 'sum', in the pinned program and in every row, IS THE sha256 OF THE DUMP (.gsa) THAT Qxb6603309aProg.lean LOADS. Nothing in Lean hashes anything: it is a label: what it is worth is what the hold of that sum in a sandbox is worth. -/
noncomputable def Try.pinned : Pinned := { name := "qxb6603309a", sum := "75ec4037fd8905b55da21f005d44c0ebac8799453a63016e7315e29a11bd5397", checked := Try.checked }
namespace Rows
def none {H : Type} : Left H := { results := [], args := [] }

/-- 'zzlaws_internal_zkserver_b1.FnSplitCharacterised': WHATEVER THE INPUT: true; the input reads as it did. -/
def fnSplitCharacterisedSpec : ChangeSpec := { name := "fnSplitCharacterised", fn := fun _ => fun
  | [d] => { results := [.lit (.bool true)], args := [d] }
  | _ => none }
def fnSplitCharacterisedRow : OpenClaim := { program := "qxb6603309a", sum := "75ec4037fd8905b55da21f005d44c0ebac8799453a63016e7315e29a11bd5397", func := "example.com/stubwright/stubwright/zzlaws_internal_zkserver_b1.FnSplitCharacterised", spec := "fnSplitCharacterised", apart := false }
def FnSplitCharacterisedSaid : Prop := fnSplitCharacterisedRow.holds Try.pinned (OpenSpec.ofChange fnSplitCharacterisedSpec)

/-- ITS FALSE NEIGHBOUR: 'it returns false'. Refute it at one input. -/
def fnSplitCharacterisedWrong : ChangeSpec := { name := "fnSplitCharacterised", fn := fun _ => fun
  | [d] => { results := [.lit (.bool false)], args := [d] }
  | _ => none }
def FnSplitCharacterisedWrongFalsely : Prop := fnSplitCharacterisedRow.holds Try.pinned (OpenSpec.ofChange fnSplitCharacterisedWrong)

/-- 'zzlaws_internal_zkserver_b1.FnEncoderBoolScriptRoundTrip': WHATEVER THE INPUT: true; the input reads as it did. -/
def fnEncoderBoolScriptRoundTripSpec : ChangeSpec := { name := "fnEncoderBoolScriptRoundTrip", fn := fun _ => fun
  | [d] => { results := [.lit (.bool true)], args := [d] }
  | _ => none }
def fnEncoderBoolScriptRoundTripRow : OpenClaim := { program := "qxb6603309a", sum := "75ec4037fd8905b55da21f005d44c0ebac8799453a63016e7315e29a11bd5397", func := "example.com/stubwright/stubwright/zzlaws_internal_zkserver_b1.FnEncoderBoolScriptRoundTrip", spec := "fnEncoderBoolScriptRoundTrip", apart := false }
def FnEncoderBoolScriptRoundTripSaid : Prop := fnEncoderBoolScriptRoundTripRow.holds Try.pinned (OpenSpec.ofChange fnEncoderBoolScriptRoundTripSpec)

/-- ITS FALSE NEIGHBOUR: 'it returns false'. Refute it at one input. -/
def fnEncoderBoolScriptRoundTripWrong : ChangeSpec := { name := "fnEncoderBoolScriptRoundTrip", fn := fun _ => fun
  | [d] => { results := [.lit (.bool false)], args := [d] }
  | _ => none }
def FnEncoderBoolScriptRoundTripWrongFalsely : Prop := fnEncoderBoolScriptRoundTripRow.holds Try.pinned (OpenSpec.ofChange fnEncoderBoolScriptRoundTripWrong)

end Rows
end Go.Proofs.Qxb6603309a
