/-
  THE WALKS of matchByte, ZZmatchByte.
-/
import Derived.Test.Qxb6601063aWalks
import Derived.WalkSpells
namespace Go.Proofs.Qxb6601063a.Wk
open Go.RowKit Go.PlainAid Pl

theorem ret_pair {a b : Int} {c d : Bool} (h : a = b) (k : c = d) : Ending.returned (.tuple #[.int .i64 a, .bool c]) = .returned (.tuple #[.int .i64 b, .bool d]) := by rw [h, k]

set_option maxRecDepth 100000 in
set_option maxHeartbeats 1000000 in
theorem matchByte_any (s : ByteArray) (b : Int) (w : World) (hs : s.size ≤ 1099511627776) (h0 : 0 < s.size) :
    Calls Try.prog 23 #[.string s, .int .u8 b] w fun e w' => e = .returned (.tuple #[.int .i64 (mbW s), .bool (mbO s b)]) ∧ ∃ n, w.drewN n = w' := by
  have hb := get_bt s
  by_cases a1 : bt s 0 = 63
  · have HW : Hid (1 = mbW s) := by simp [Hid, mbW, a1]
    have HO : Hid (true = mbO s b) := by simp [Hid, mbO, a1]
    go_enter Try.func23, Try.ntmps23
    go_wp2
    go_ret2
    exact ⟨ret_pair HW.out HO.out, 0, rfl⟩
  by_cases a2 : bt s 0 = 92
  · by_cases a3 : 1 < s.size
    · have HW : Hid (2 = mbW s) := by simp [Hid, mbW, a2, a3]
      have HO : Hid ((bt s 1 == b) = mbO s b) := by simp [Hid, mbO, a2, a3]
      go_enter Try.func23, Try.ntmps23
      go_wp2
      go_quiet (fail)
      go_wp2
      go_ret2
      exact ⟨ret_pair HW.out HO.out, _, rfl⟩
    · have HW : Hid (1 = mbW s) := by simp [Hid, mbW, a2, a3]
      have HO : Hid ((bt s 0 == b) = mbO s b) := by simp [Hid, mbO, a2, a3]
      go_enter Try.func23, Try.ntmps23
      go_wp2
      go_quiet (fail)
      go_wp2
      go_ret2
      exact ⟨ret_pair HW.out (by rw [← HO.out, a2]), _, rfl⟩
  by_cases a4 : bt s 0 = 91
  · have hr := seI_range s 1
    by_cases a3 : 0 < seI s 1
    · obtain ⟨m, hm⟩ : ∃ m : Nat, seI s 1 = (m : Int) := ⟨(seI s 1).toNat, by omega⟩
      have HW : Hid ((m : Int) + 1 = mbW s) := by rw [Hid, ← hm]; simp [mbW, a4, a3]
      have HO : Hid (inS (s.extract 1 m) b = mbO s b) := by
        have e : (seI s 1).toNat = m := by omega
        simp [Hid, mbO, a4, a3, e]
      have HSE : Hid (∀ wx, Calls Try.prog 25 #[.string s] wx fun e w' => e = .returned (.int .i64 (m : Int)) ∧ wx = w') := by
        intro wx; rw [← hm]; exact setEnd_any s wx hs
      have hz : (s.extract 1 m).size ≤ 1099511627776 := by rw [size_cut]; omega
      have m1 : 1 ≤ m := by omega
      have m2 : m < s.size := by omega
      clear hm hr a3
      go_enter Try.func23, Try.ntmps23
      go_wp2_with (first | (go_at_call 25; refine (HSE.out _).mono ?_; rintro e w' ⟨rfl, rfl⟩) | (go_at_call 24; refine (inSet_any _ _ _ hz).mono ?_; rintro e w' ⟨rfl, rfl⟩))
      go_ret2
      exact ⟨ret_pair HW.out HO.out, 0, rfl⟩
    · have HW : Hid (1 = mbW s) := by simp [Hid, mbW, a4, a3]
      have HO : Hid ((bt s 0 == b) = mbO s b) := by simp [Hid, mbO, a4, a3]
      go_enter Try.func23, Try.ntmps23
      go_wp2_with (first | (go_at_call 25; refine (setEnd_any _ _ hs).mono ?_; rintro e w' ⟨rfl, rfl⟩))
      go_quiet (fail)
      go_wp2
      go_ret2
      exact ⟨ret_pair HW.out (by rw [← HO.out, a4]), _, rfl⟩
  · have HW : Hid (1 = mbW s) := by simp [Hid, mbW, a1, a2, a4]
    have HO : Hid ((bt s 0 == b) = mbO s b) := by simp [Hid, mbO, a1, a2, a4]
    go_enter Try.func23, Try.ntmps23
    go_wp2
    go_quiet (fail)
    go_wp2
    go_ret2
    exact ⟨ret_pair HW.out HO.out, _, rfl⟩

set_option maxHeartbeats 400000 in
theorem ZZmatchByte_any (s : ByteArray) (b : Int) (w : World) (hs : s.size ≤ 1099511627776) (h0 : 0 < s.size) :
    Calls Try.prog 16 #[.string s, .int .u8 b] w fun e w' => e = .returned (.tuple #[.int .i64 (mbW s), .bool (mbO s b)]) ∧ ∃ n, w.drewN n = w' := by
  go_enter Try.func16, Try.ntmps16
  go_wp2_with (go_at_call 23; refine (matchByte_any _ _ _ hs h0).mono ?_; rintro e w' ⟨rfl, n, rfl⟩)
  go_ret2
  exact ⟨rfl, n, rfl⟩

end Go.Proofs.Qxb6601063a.Wk
