/-
  THE LAW's OWN WALK: FnMatchGlobAgreesWithAutomaton.
-/
import Derived.Test.Qxb6601063aModel
namespace Go.Proofs.Qxb6601063a.Wk
open Go.RowKit Go.PlainAid Pl

set_option maxHeartbeats 400000 in
theorem zz10 (s N : ByteArray) (w : World) (h : s.size ≤ 65536) (hn : N.size ≤ 65536) :
    Calls Try.prog 10 #[.string s, .string N] w fun e w' => e = .returned (.bool true) ∧ w = w' := by
  go_enter Try.func10, Try.ntmps10
  go_wp2
  go_ret
  exact ⟨rfl, rfl⟩

set_option maxHeartbeats 1000000 in
theorem walk3 (s N : ByteArray) (hs0 : s.size ≤ maxLen) (hn0 : N.size ≤ maxLen) (w : World) :
    Calls Try.prog 3 #[.string s, .string N] w fun e w' => e = .returned (.bool true) ∧ Below w.heap.size w w' := by
  unfold maxLen at hs0 hn0
  by_cases c1 : 1048576 < s.size
  · go_enter Try.func3, Try.ntmps3
    go_wp2
    go_ret
    exact ⟨rfl, Below.refl _ _⟩
  by_cases c2 : 1048576 < N.size
  · go_enter Try.func3, Try.ntmps3
    go_wp2
    go_ret
    exact ⟨rfl, Below.refl _ _⟩
  by_cases c2b : 1048576 < s.size + N.size
  · go_enter Try.func3, Try.ntmps3
    go_wp2
    go_ret
    exact ⟨rfl, Below.refl _ _⟩
  by_cases c3 : 4096 < s.size
  · go_enter Try.func3, Try.ntmps3
    go_wp2
    go_ret
    exact ⟨rfl, Below.refl _ _⟩
  by_cases c4 : 4096 < N.size
  · go_enter Try.func3, Try.ntmps3
    go_wp2
    go_ret
    exact ⟨rfl, Below.refl _ _⟩
  have hs : s.size ≤ 4096 := by omega
  have hn : N.size ≤ 4096 := by omega
  clear c1 c2 c2b c3 c4 hs0 hn0
  go_enter Try.func3, Try.ntmps3
  go_wp2_with (go_at_call 10; refine (zz10 _ _ _ (by omega) (by omega)).mono ?_; rintro e w' ⟨rfl, rfl⟩)
  refine (ZZmatchGlob_any s N _ (by omega) (by omega)).mono ?_
  rintro e w' ⟨r, rfl, hr, d, rfl⟩
  have HR : Hid (r = true ↔ GM s N 0 0) := hr
  clear hr
  go_wp2_with fail
  refine (model_any s N _ hs hn).mono ?_
  rintro e w' ⟨r2, rfl, hr2, hbel⟩
  have HX : Hid (r = r2) := by rw [Hid, Bool.eq_iff_iff, HR.out, hr2]
  clear hr2
  have hb2 : Below w.heap.size w w' := (below_drewN (Below.refl _ w) d).trans hbel
  clear hbel
  go_wp2
  go_ret
  exact ⟨ret_bool (by rw [HX.out]; simp), hb2⟩

end Go.Proofs.Qxb6601063a.Wk
