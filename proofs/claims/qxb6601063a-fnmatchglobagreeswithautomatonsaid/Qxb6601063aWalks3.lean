/-
  THE WALK of matchGlob: it answers just whether the pattern matches the name ('GM').
-/
import Derived.Test.Qxb6601063aWalks2
import Derived.Test.Qxb6601063aGlob
namespace Go.Proofs.Qxb6601063a.Wk
open Go.RowKit Go.PlainAid Pl

theorem drawn_refl (w : World) : ∃ d, w.drewN d = w := ⟨0, rfl⟩
theorem drawn_more {w v : World} (h : Hid (∃ d, w.drewN d = v)) (n : Nat) : ∃ d, w.drewN d = v.drewN n := by
  obtain ⟨d, rfl⟩ := h.out
  exact ⟨d + n, by rw [World.drewN_drewN]⟩

set_option maxRecDepth 100000 in
set_option maxHeartbeats 2000000 in
theorem matchGlob_any (P N : ByteArray) (w : World) (hP : P.size ≤ 1073741824) (hN : N.size ≤ 1073741824) :
    Calls Try.prog 22 #[.string P, .string N] w fun e w' => ∃ r : Bool, e = .returned (.bool r) ∧ (r = true ↔ GM P N 0 0) ∧ ∃ d, w.drewN d = w' := by
  have hbP := get_bt P
  have hbN := get_bt N
  go_enter Try.func22, Try.ntmps22
  go_wp2
  go_loopg [5, 6, 7, 8] (msr (P.size + 1) N.size 0 0 0) (fun g xp xn xs xe wr => ∃ p n st se : Nat, xp = .int .i64 p ∧ xn = .int .i64 n ∧ xs = .int .i64 ((st : Int) - 1) ∧ xe = .int .i64 se ∧ Hid (Inv P N p n st se) ∧ Hid (g = msr (P.size + 1) N.size st se n) ∧ Hid (∃ d, w.drewN d = wr))
  case atStart => exact ⟨0, 0, 0, 0, rfl, rfl, rfl, rfl, inv_start P N, rfl, drawn_refl w⟩
  case round =>
    obtain ⟨p, n, st, se, rfl, rfl, rfl, rfl, HI, HG, HW⟩ := hrel
    have i1 := HI.out.1
    have i2 := HI.out.2.1
    have i3 := HI.out.2.2.1
    have i4 := HI.out.2.2.2.1
    by_cases hn : n < N.size
    · by_cases c1 : p < P.size
      · by_cases c2 : bt P p = 42
        · have k2 : (bt P p == 42) = true := by rw [c2]; rfl
          have HJ : Hid (Inv P N (p + 1) n (p + 2) n) := inv_star P N p n st se HI.out c1 c2
          have HM : Hid (msr (P.size + 1) N.size (p + 2) n n < gk) := by rw [Hid, HG.out]; exact msr_star _ _ _ _ _ _ _ (by omega) (by omega)
          clear c2
          go_wp2
          go_roundg (msr (P.size + 1) N.size (p + 2) n n)
          case measure => exact HM.out
          case rel => exact ⟨p + 1, n, p + 2, n, by go_num, rfl, by go_num, rfl, HJ, rfl, HW⟩
        · have k2 : (bt P p == 42) = false := by rw [beq_eq_false_iff_ne]; exact c2
          have hz : (P.extract p P.size).size = P.size - p := by rw [size_cut]; omega
          obtain ⟨w1, w2⟩ := wid_range P p c1
          have hc : ∀ wx, Calls Try.prog 23 #[.string (P.extract p P.size), .int .u8 (bt N n)] wx fun e w' => e = .returned (.tuple #[.int .i64 (wid P p), .bool (oks P p (bt N n))]) ∧ ∃ k, w' = wx.drewN k := by
            intro wx; rw [← wid_int P p c1]; exact (matchByte_any _ _ _ (by omega) (by omega)).mono fun _ _ ⟨a, k, b⟩ => ⟨a, k, b.symm⟩
          cases ho : oks P p (bt N n)
          · have hx := no_match P N p n hn (Or.inr ⟨c1, c2, ho⟩)
            rw [ho] at hc
            have HC : Hid (∀ wx, Calls Try.prog 23 #[.string (P.extract p P.size), .int .u8 (bt N n)] wx fun e w' => e = .returned (.tuple #[.int .i64 (wid P p), .bool _]) ∧ ∃ k, w' = wx.drewN k) := hc
            by_cases c3 : st = 0
            · subst c3
              have HX : Hid (¬ GM P N 0 0) := inv_fail P N p n se HI.out hx
              clear hc hx ho c2 hz
              go_wp2
              go_quiet ((go_at_call 23; exact Calls.quiet_of (HC.out _)))
              go_wp2
              go_ret
              exact ⟨false, rfl, ⟨fun h => (by simp at h), fun h => absurd h HX.out⟩, drawn_more HW _⟩
            · have HJ : Hid (Inv P N (st - 1) (se + 1) st (se + 1)) := inv_again P N p n st se HI.out (by omega) hn hx
              have HM : Hid (msr (P.size + 1) N.size st (se + 1) (se + 1) < gk) := by rw [Hid, HG.out]; exact msr_again _ _ _ _ _ _ (by omega)
              clear hc hx ho c2 hz
              go_wp2
              go_quiet ((go_at_call 23; exact Calls.quiet_of (HC.out _)))
              go_wp2
              go_roundg (msr (P.size + 1) N.size st (se + 1) (se + 1))
              case measure => exact HM.out
              case rel => exact ⟨st - 1, se + 1, st, se + 1, by go_num, by go_num, rfl, by go_num, HJ, rfl, drawn_more HW _⟩
          · have HJ : Hid (Inv P N (p + wid P p) (n + 1) st se) := inv_byte P N p n st se HI.out c1 hn c2 ho
            have HM : Hid (msr (P.size + 1) N.size st se (n + 1) < gk) := by rw [Hid, HG.out]; exact msr_byte _ _ _ _ _ hn
            rw [ho] at hc
            have HC : Hid (∀ wx, Calls Try.prog 23 #[.string (P.extract p P.size), .int .u8 (bt N n)] wx fun e w' => e = .returned (.tuple #[.int .i64 (wid P p), .bool _]) ∧ ∃ k, w' = wx.drewN k) := hc
            clear hc ho c2 hz
            go_wp2
            go_quiet ((go_at_call 23; exact Calls.quiet_of (HC.out _)))
            go_wp2
            go_roundg (msr (P.size + 1) N.size st se (n + 1))
            case measure => exact HM.out
            case rel => exact ⟨p + wid P p, n + 1, st, se, by go_num, by go_num, rfl, rfl, HJ, rfl, drawn_more HW _⟩
      · have hx := no_match P N p n hn (Or.inl (by omega))
        by_cases c3 : st = 0
        · subst c3
          have HX : Hid (¬ GM P N 0 0) := inv_fail P N p n se HI.out hx
          clear hx
          go_wp2
          go_ret
          exact ⟨false, rfl, ⟨fun h => (by simp at h), fun h => absurd h HX.out⟩, HW.out⟩
        · have HJ : Hid (Inv P N (st - 1) (se + 1) st (se + 1)) := inv_again P N p n st se HI.out (by omega) hn hx
          have HM : Hid (msr (P.size + 1) N.size st (se + 1) (se + 1) < gk) := by rw [Hid, HG.out]; exact msr_again _ _ _ _ _ _ (by omega)
          clear hx
          go_wp2
          go_roundg (msr (P.size + 1) N.size st (se + 1) (se + 1))
          case measure => exact HM.out
          case rel => exact ⟨st - 1, se + 1, st, se + 1, by go_num, by go_num, rfl, by go_num, HJ, rfl, HW⟩
    · have HO : Hid (GM P N 0 0 ↔ GM P N p N.size) := inv_out P N p n st se HI.out (by omega)
      go_wp2
      go_loopg [5] (P.size - p) (fun g xq wv => ∃ q : Nat, q ≤ P.size ∧ xq = .int .i64 q ∧ Hid (GM P N 0 0 ↔ GM P N q N.size) ∧ g = P.size - q ∧ wr = wv)
      case atStart => exact ⟨p, i1, rfl, HO, rfl, rfl⟩
      case round =>
        obtain ⟨q, hq, rfl, HQ, rfl, rfl⟩ := hrel
        by_cases c1 : q < P.size
        · by_cases c2 : bt P q = 42
          · have k2 : (bt P q == 42) = true := by rw [c2]; rfl
            have HQ' : Hid (GM P N 0 0 ↔ GM P N (q + 1) N.size) := HQ.out.trans (tail_star P N q c1 c2)
            clear c2
            go_wp2
            go_roundg (P.size - (q + 1))
            case measure => omega
            case rel => exact ⟨q + 1, by omega, by go_num, HQ', rfl, rfl⟩
          · have k2 : (bt P q == 42) = false := by rw [beq_eq_false_iff_ne]; exact c2
            have HX : Hid (¬ GM P N 0 0) := fun h => tail_no P N q c1 c2 (HQ.out.1 h)
            have k3 : ((q : Int) == (P.size : Int)) = false := by rw [beq_eq_false_iff_ne]; omega
            clear c2
            go_wp2
            go_ret
            exact ⟨false, rfl, ⟨fun h => (by simp at h), fun h => absurd h HX.out⟩, HW.out⟩
        · have HX : Hid (GM P N 0 0) := HQ.out.2 (tail_end P N q (by omega))
          have k3 : ((q : Int) == (P.size : Int)) = true := by rw [beq_iff_eq]; omega
          go_wp2
          go_ret
          exact ⟨true, rfl, ⟨fun _ => HX.out, fun _ => rfl⟩, HW.out⟩

set_option maxHeartbeats 400000 in
theorem ZZmatchGlob_any (P N : ByteArray) (w : World) (hP : P.size ≤ 1073741824) (hN : N.size ≤ 1073741824) :
    Calls Try.prog 11 #[.string P, .string N] w fun e w' => ∃ r : Bool, e = .returned (.bool r) ∧ (r = true ↔ GM P N 0 0) ∧ ∃ d, w.drewN d = w' := by
  go_enter Try.func11, Try.ntmps11
  go_wp2_with fail
  refine (matchGlob_any P N _ hP hN).mono ?_
  rintro e w' ⟨r, rfl, hr, d, rfl⟩
  have HR : Hid (r = true ↔ GM P N 0 0) := hr
  clear hr
  go_wp2
  go_ret
  exact ⟨r, rfl, HR.out, d, rfl⟩

end Go.Proofs.Qxb6601063a.Wk
