/-
  No cell of these rows narrows 'for every input' (looked for: loops, veiled, ifaces, maps, wideKeys, modest, calm, conditions, laid).
  DERIVED. THE GIVEN ROWS OF THIS SEAT. 5 by the template 'for every input the law returns true; each argument reads behind the call as it read before'; 0 by the template 'total and deterministic' (their statements: Qxb6603249aTotals.lean).
  GIVEN WITH THE SEED: the statements are not yours to turn. If you find one false, say at which input.
  Laid BY PROGRAM, IN A SANDBOX (cutbox-rows.mjs): the forced cells as the released guide's own fill.sh prints them over the translation 8e4e2744b79a1f38… (all of the seat's roots in one cut). By AI agents, Wed Nov 11 2026. No macro, syntax, notation, axiom, sorry.
-/
import Derived.Test.Qxb6603249aChecked
import GoSem.Claim
import GoSem.ClaimJoined
import GoSem.ClaimMapViews
import Derived.JoinedTies
import Derived.KernelRfl
namespace Go.Proofs.Qxb6603249a
/- THE CELL 'sum', in the pinned program and in every row, IS THE sha256 OF THE DUMP (.gsa) THAT Qxb6603249aProg.lean LOADS. Nothing in Lean hashes anything: it is a label: what it is worth is what the hold of that sum in a sandbox is worth. -/
noncomputable def Try.pinned : Pinned := { name := "qxb6603249a", sum := "8e4e2744b79a1f383be7701f879e5f6961b136913fbe60dc579cc38099a7b2f7", checked := Try.checked }
namespace Rows
def none {H : Type} : Left H := { results := [], args := [] }

/-- 'zzlaws_internal_election_b1.FnBeforeIgnoresVersions': WHATEVER THE INPUT: true; the input reads as it did. -/
def fnBeforeIgnoresVersionsSpec : ChangeSpec := { name := "fnBeforeIgnoresVersions", fn := fun _ => fun
  | [d1, d2, d3, d4, d5, d6, d7, d8, d9, d10, d11, d12] => { results := [.lit (.bool true)], args := [d1, d2, d3, d4, d5, d6, d7, d8, d9, d10, d11, d12] }
  | _ => none }
def fnBeforeIgnoresVersionsRow : OpenClaim := { program := "qxb6603249a", sum := "8e4e2744b79a1f383be7701f879e5f6961b136913fbe60dc579cc38099a7b2f7", func := "example.com/tributary/tributary/zzlaws_internal_election_b1.FnBeforeIgnoresVersions", spec := "fnBeforeIgnoresVersions", apart := false }
def FnBeforeIgnoresVersionsSaid : Prop := fnBeforeIgnoresVersionsRow.holds Try.pinned (OpenSpec.ofChange fnBeforeIgnoresVersionsSpec)

/-- ITS FALSE NEIGHBOUR: 'it returns false'. Refute it at one input. -/
def fnBeforeIgnoresVersionsWrong : ChangeSpec := { name := "fnBeforeIgnoresVersions", fn := fun _ => fun
  | [d1, d2, d3, d4, d5, d6, d7, d8, d9, d10, d11, d12] => { results := [.lit (.bool false)], args := [d1, d2, d3, d4, d5, d6, d7, d8, d9, d10, d11, d12] }
  | _ => none }
def FnBeforeIgnoresVersionsWrongFalsely : Prop := fnBeforeIgnoresVersionsRow.holds Try.pinned (OpenSpec.ofChange fnBeforeIgnoresVersionsWrong)

/-- 'zzlaws_internal_election_b1.FnBeforeGrowingLogIsLater': WHATEVER THE INPUT: true; the input reads as it did. -/
def fnBeforeGrowingLogIsLaterSpec : ChangeSpec := { name := "fnBeforeGrowingLogIsLater", fn := fun _ => fun
  | [d1, d2, d3, d4, d5, d6, d7] => { results := [.lit (.bool true)], args := [d1, d2, d3, d4, d5, d6, d7] }
  | _ => none }
def fnBeforeGrowingLogIsLaterRow : OpenClaim := { program := "qxb6603249a", sum := "8e4e2744b79a1f383be7701f879e5f6961b136913fbe60dc579cc38099a7b2f7", func := "example.com/tributary/tributary/zzlaws_internal_election_b1.FnBeforeGrowingLogIsLater", spec := "fnBeforeGrowingLogIsLater", apart := false }
def FnBeforeGrowingLogIsLaterSaid : Prop := fnBeforeGrowingLogIsLaterRow.holds Try.pinned (OpenSpec.ofChange fnBeforeGrowingLogIsLaterSpec)

/-- ITS FALSE NEIGHBOUR: 'it returns false'. Refute it at one input. -/
def fnBeforeGrowingLogIsLaterWrong : ChangeSpec := { name := "fnBeforeGrowingLogIsLater", fn := fun _ => fun
  | [d1, d2, d3, d4, d5, d6, d7] => { results := [.lit (.bool false)], args := [d1, d2, d3, d4, d5, d6, d7] }
  | _ => none }
def FnBeforeGrowingLogIsLaterWrongFalsely : Prop := fnBeforeGrowingLogIsLaterRow.holds Try.pinned (OpenSpec.ofChange fnBeforeGrowingLogIsLaterWrong)

/-- 'zzlaws_internal_election_b1.FnBeforeIsStrictWeakOrder': WHATEVER THE INPUT: true; the input reads as it did. -/
def fnBeforeIsStrictWeakOrderSpec : ChangeSpec := { name := "fnBeforeIsStrictWeakOrder", fn := fun _ => fun
  | [d1, d2, d3, d4, d5, d6, d7, d8, d9, d10, d11, d12] => { results := [.lit (.bool true)], args := [d1, d2, d3, d4, d5, d6, d7, d8, d9, d10, d11, d12] }
  | _ => none }
def fnBeforeIsStrictWeakOrderRow : OpenClaim := { program := "qxb6603249a", sum := "8e4e2744b79a1f383be7701f879e5f6961b136913fbe60dc579cc38099a7b2f7", func := "example.com/tributary/tributary/zzlaws_internal_election_b1.FnBeforeIsStrictWeakOrder", spec := "fnBeforeIsStrictWeakOrder", apart := false }
def FnBeforeIsStrictWeakOrderSaid : Prop := fnBeforeIsStrictWeakOrderRow.holds Try.pinned (OpenSpec.ofChange fnBeforeIsStrictWeakOrderSpec)

/-- ITS FALSE NEIGHBOUR: 'it returns false'. Refute it at one input. -/
def fnBeforeIsStrictWeakOrderWrong : ChangeSpec := { name := "fnBeforeIsStrictWeakOrder", fn := fun _ => fun
  | [d1, d2, d3, d4, d5, d6, d7, d8, d9, d10, d11, d12] => { results := [.lit (.bool false)], args := [d1, d2, d3, d4, d5, d6, d7, d8, d9, d10, d11, d12] }
  | _ => none }
def FnBeforeIsStrictWeakOrderWrongFalsely : Prop := fnBeforeIsStrictWeakOrderRow.holds Try.pinned (OpenSpec.ofChange fnBeforeIsStrictWeakOrderWrong)

/-- 'zzlaws_internal_election_b1.FnVouchedLaterCandidateStaysVouched': WHATEVER THE INPUT: true; the input reads as it did. -/
def fnVouchedLaterCandidateStaysVouchedSpec : ChangeSpec := { name := "fnVouchedLaterCandidateStaysVouched", fn := fun _ => fun
  | [d1, d2, d3, d4, d5, d6, d7, d8, d9, d10, d11] => { results := [.lit (.bool true)], args := [d1, d2, d3, d4, d5, d6, d7, d8, d9, d10, d11] }
  | _ => none }
def fnVouchedLaterCandidateStaysVouchedRow : OpenClaim := { program := "qxb6603249a", sum := "8e4e2744b79a1f383be7701f879e5f6961b136913fbe60dc579cc38099a7b2f7", func := "example.com/tributary/tributary/zzlaws_internal_election_b1.FnVouchedLaterCandidateStaysVouched", spec := "fnVouchedLaterCandidateStaysVouched", apart := false }
def FnVouchedLaterCandidateStaysVouchedSaid : Prop := fnVouchedLaterCandidateStaysVouchedRow.holds Try.pinned (OpenSpec.ofChange fnVouchedLaterCandidateStaysVouchedSpec)

/-- ITS FALSE NEIGHBOUR: 'it returns false'. Refute it at one input. -/
def fnVouchedLaterCandidateStaysVouchedWrong : ChangeSpec := { name := "fnVouchedLaterCandidateStaysVouched", fn := fun _ => fun
  | [d1, d2, d3, d4, d5, d6, d7, d8, d9, d10, d11] => { results := [.lit (.bool false)], args := [d1, d2, d3, d4, d5, d6, d7, d8, d9, d10, d11] }
  | _ => none }
def FnVouchedLaterCandidateStaysVouchedWrongFalsely : Prop := fnVouchedLaterCandidateStaysVouchedRow.holds Try.pinned (OpenSpec.ofChange fnVouchedLaterCandidateStaysVouchedWrong)

/-- 'zzlaws_internal_election_b1.FnVouchedThresholdsAndOwnRow': WHATEVER THE INPUT: true; the input reads as it did. -/
def fnVouchedThresholdsAndOwnRowSpec : ChangeSpec := { name := "fnVouchedThresholdsAndOwnRow", fn := fun _ => fun
  | [d1, d2, d3, d4, d5, d6, d7, d8] => { results := [.lit (.bool true)], args := [d1, d2, d3, d4, d5, d6, d7, d8] }
  | _ => none }
def fnVouchedThresholdsAndOwnRowRow : OpenClaim := { program := "qxb6603249a", sum := "8e4e2744b79a1f383be7701f879e5f6961b136913fbe60dc579cc38099a7b2f7", func := "example.com/tributary/tributary/zzlaws_internal_election_b1.FnVouchedThresholdsAndOwnRow", spec := "fnVouchedThresholdsAndOwnRow", apart := false }
def FnVouchedThresholdsAndOwnRowSaid : Prop := fnVouchedThresholdsAndOwnRowRow.holds Try.pinned (OpenSpec.ofChange fnVouchedThresholdsAndOwnRowSpec)

/-- ITS FALSE NEIGHBOUR: 'it returns false'. Refute it at one input. -/
def fnVouchedThresholdsAndOwnRowWrong : ChangeSpec := { name := "fnVouchedThresholdsAndOwnRow", fn := fun _ => fun
  | [d1, d2, d3, d4, d5, d6, d7, d8] => { results := [.lit (.bool false)], args := [d1, d2, d3, d4, d5, d6, d7, d8] }
  | _ => none }
def FnVouchedThresholdsAndOwnRowWrongFalsely : Prop := fnVouchedThresholdsAndOwnRowRow.holds Try.pinned (OpenSpec.ofChange fnVouchedThresholdsAndOwnRowWrong)

end Rows
end Go.Proofs.Qxb6603249a
