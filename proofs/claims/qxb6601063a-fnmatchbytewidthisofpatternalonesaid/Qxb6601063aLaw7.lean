/-
  THE LAW's OWN WALK: FnMatchByteWidthIsOfPatternAlone.
-/
import Derived.Test.Qxb6601063aWalks2
namespace Go.Proofs.Qxb6601063a.Wk
open Go.RowKit Go.PlainAid Pl

theorem grown_drewN {W w : World} (h : Grown W w) (n : Nat) : Grown W (w.drewN n) := h

set_option maxHeartbeats 400000 in
theorem zz18 (a0 : ByteArray) (a1 a2 : Int) (w : World) (h : a0.size ≤ 1048576) :
    Calls Try.prog 18 #[.string a0, .int .u8 a1, .int .u8 a2] w fun e w' => e = .returned (.bool true) ∧ w = w' := by
  go_enter Try.func18, Try.ntmps18
  go_wp2
  go_ret
  exact ⟨rfl, rfl⟩

set_option maxHeartbeats 400000 in
theorem walk7 (a0 : ByteArray) (a1 a2 : Int) (w : World) :
    Calls Try.prog 7 #[.string a0, .int .u8 a1, .int .u8 a2] w fun e w' => e = .returned (.bool true) ∧ Grown w w' := by
  have hb := get_bt a0
  by_cases c1 : 1048576 < a0.size
  · go_enter Try.func7, Try.ntmps7
    go_wp2
    go_ret
    exact ⟨rfl, Grown.refl _⟩
  by_cases c2 : 65536 < a0.size
  · go_enter Try.func7, Try.ntmps7
    go_wp2
    go_ret
    exact ⟨rfl, Grown.refl _⟩
  by_cases c3 : a0.size = 0
  · go_enter Try.func7, Try.ntmps7
    go_wp2
    go_ret
    exact ⟨rfl, Grown.refl _⟩
  by_cases c4 : bt a0 0 = 42
  · go_enter Try.func7, Try.ntmps7
    go_wp2
    go_ret
    exact ⟨rfl, Grown.refl _⟩
  have h0 : 0 < a0.size := by omega
  have hs : a0.size ≤ 1099511627776 := by omega
  obtain ⟨r1, r2⟩ := mbW_range a0 h0
  have h3 : ((a0.size : Int) == 0) = false := by rw [beq_eq_false_iff_ne]; omega
  have h4 : (bt a0 0 == 42) = false := by rw [beq_eq_false_iff_ne]; exact c4
  go_enter Try.func7, Try.ntmps7
  go_wp2_with fail
  refine (zz18 _ _ _ _ (by omega)).mono ?_
  rintro e w' ⟨rfl, rfl⟩
  go_wp2_with fail
  refine (ZZmatchByte_any _ _ _ hs h0).mono ?_
  rintro e w' ⟨rfl, n, rfl⟩
  go_wp2_with fail
  refine (ZZmatchByte_any _ _ _ hs h0).mono ?_
  rintro e w' ⟨rfl, n', rfl⟩
  go_wp2
  go_ret
  exact ⟨rfl, grown_drewN (Grown.refl w) _⟩

end Go.Proofs.Qxb6601063a.Wk
