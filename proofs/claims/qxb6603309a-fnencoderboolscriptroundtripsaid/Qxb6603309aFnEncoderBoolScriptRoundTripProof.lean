/-
  A PROOF OF 'Rows.FnEncoderBoolScriptRoundTripSaid'. The frame is the guide's template (howto/shells/), turned to this function's type: a slice of bools.
-/
import Derived.Test.Qxb6603309aRows
import Derived.WalkKit
import Derived.ProofKit
import Derived.OpenShut
import Derived.ShutString
import Derived.ChangeOld
import Derived.Below
import Derived.Deep.Slices
import Derived.Test.Qxb6603309aLaw4
namespace Go.Proofs.Qxb6603309a.fnEncoderBoolScriptRoundTrip
open Go.ChangeShapes Go.WideShapes Go.ChangeAt Go.RowKit
set_option linter.unusedVariables false

theorem own : ownKnob Try.prog.godebug = none := by kernel_rfl
theorem laidOut : laidOutB Try.prog = true := by kernel_rfl
theorem cells4 : Try.prog.cellsOf 4 = 1 := by kernel_rfl

theorem open_bools {H : Type} {enc : TypeId × Value → H} {W : World} {a0 : Option Addr} {len cap fuel : Nat} {x : DataW H × List MemPlace} (h : DataW.trod enc Try.prog W 0 (fun _ => true) true fuel 25 [.slice a0 len cap] = some x) :
    ∃ f, Wk.Bin W a0 len cap f ∧ len ≤ maxLen := by
  rcases Deep.open_slice1 Try.underlying25 cells4 h with ⟨hcs, _⟩ | ⟨a, len', cap', m, n, V, D, Pl, hcs, _, hl, hm, hmm, _, hx⟩
  · simp at hcs
    obtain ⟨rfl, rfl, rfl⟩ := hcs
    exact ⟨fun _ => false, Or.inl ⟨rfl, rfl, rfl⟩, Nat.zero_le _⟩
  simp at hcs
  obtain ⟨rfl, rfl, rfl⟩ := hcs
  simp at hmm
  subst hmm
  have each : ∀ i, i < m → ∃ q : Bool, W.cell? (a.add i) = some (.bool q) := fun i hi => by
    obtain ⟨h1, h2⟩ := hx i hi
    obtain ⟨q, e, _⟩ := DataW.trod_bool Try.underlying4 h2
    simp at e
    exact ⟨q, by rw [h1, e]⟩
  obtain ⟨f, hq⟩ := Deep.choose_lt each
  refine ⟨f, Or.inr ?_, by omega⟩
  by_cases h0 : len = 0
  · exact Or.inl ⟨a, rfl, h0⟩
  · right
    obtain ⟨b, off, spot⟩ := a
    have hspot : spot = none := by simpa [Addr.add] using World.cell?_spot (hq 0 (by omega))
    subst hspot
    have e : ∀ j, (⟨b, off, none⟩ : Addr).add j = ⟨b, off + j, none⟩ := fun j => add_plain b off j
    refine ⟨b, off, rfl, by omega, World.block_lt_of_cell? W ⟨b, off, none⟩ (by have := hq 0 (by omega); rw [e] at this; simpa using this), fun i hi => ?_⟩
    rw [← e]
    exact hq i (by omega)

set_option maxRecDepth 100000 in
theorem lifted (os : Os) (started : os.Started) (H : Type) (enc : TypeId × Value → H) :
    ReturnsInHanded {} Try.checked os 4 .any (Rows.fnEncoderBoolScriptRoundTripSpec.pre6 enc Try.prog Try.f4 Rows.fnEncoderBoolScriptRoundTripRow.domain false) (Rows.fnEncoderBoolScriptRoundTripSpec.post enc Try.prog Try.f4 false true false false) := by
  refine returnsInHanded_of_change (C := Try.checked) own started (by kernel_rfl) Try.func4
    (ChangeSpec.witness6 (enc := enc) (C := Try.checked) false ⟨#[], #[.slice none 0 0], []⟩ 8 (by kernel_rfl) (by kernel_rfl) (by kernel_rfl) (by kernel_rfl)) ?_
  intro W base args ds gs before hval0 hW hcnd _
  have hval : ∀ (j : Nat) t v, Try.f4.params[j]? = some t → args[j]? = some v → Value.okWide Try.prog W .any base t v := hval0
  have hW' := hW
  obtain ⟨p, q, hA0, hV, rfl, hfz, hnd⟩ := hW
  have hA : DataW.TrodAll enc Try.prog W 0 (fun _ => true) true Try.f4.params.toList args.toList ds p := hA0
  rw [Try.params4] at hA hval
  obtain ⟨v0, vs0, d0, ds0, p0, q0, hargs, rfl, rfl, h0, r0⟩ := trodAll_cons hA
  obtain ⟨rfl, rfl, rfl⟩ := trodAll_nil r0
  obtain rfl : args = #[v0] := by cases args; simp_all
  obtain ⟨rfl, rfl⟩ := trodVars_none hV
  obtain ⟨s0, len0, cap0, rfl⟩ := okWide_slice Try.underlying25 (hval 0 25 v0 rfl rfl)
  have k0 := h0
  have lt0 : ∀ x ∈ p0, x.block < W.heap.size := by obtain ⟨m, hm⟩ := k0; exact DataW.trod_lt m _ _ _ hm
  obtain ⟨f0, e0, l0⟩ : ∃ f, Wk.Bin W s0 len0 cap0 f ∧ len0 ≤ maxLen := by
    obtain ⟨fuel, hf⟩ := h0
    exact open_bools hf
  clear hA0 hval0
  refine (Wk.walk4 s0 len0 cap0 f0 W e0 l0).mono fun e W' ⟨he, bel⟩ => ?_
  subst he
  exact ⟨_, rfl, _, _, _, [], _, [], hW', trodAll_mk1 (shut_bool Try.underlying4 _), (trodAll_cons_mk (Below.trod laidOut (by kernel_rfl) (of_decide_eq_true (by kernel_rfl)) k0 bel lt0) trodAll_mk0), rfl, bel.frame _, fun h => by cases h⟩

theorem over : Rows.fnEncoderBoolScriptRoundTripRow.holds Try.pinned (OpenSpec.ofChange Rows.fnEncoderBoolScriptRoundTripSpec) :=
  OpenClaim.holds_of_wide 4 Try.f4 rfl rfl rfl rfl rfl rfl rfl ⟨rfl, rfl, rfl, rfl, rfl⟩ rfl rfl rfl rfl rfl (by kernel_rfl) Try.func4 (by kernel_rfl)
    (of_decide_eq_true (by kernel_rfl)) (by unfold Func.isWrapper; first | (rw [if_pos (by decide +kernel)]; kernel_rfl) | (rw [if_neg (by decide +kernel)]; exact ⟨rfl, rfl⟩))
    (fun os started H enc _ => lifted os started H enc)

/-- ████ THE STATEMENT ████ -/
theorem proved : Rows.FnEncoderBoolScriptRoundTripSaid :=
  over
#print axioms proved
end Go.Proofs.Qxb6603309a.fnEncoderBoolScriptRoundTrip
