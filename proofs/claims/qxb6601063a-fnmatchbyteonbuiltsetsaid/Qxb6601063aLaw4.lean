/-
  THE LAW's OWN WALK: FnMatchGlobEscapedMatchesOnlyItself.
-/
import Derived.Test.Qxb6601063aWalks3
import Derived.Test.Qxb6601063aEsc
import Derived.Laws.IdiomStrings
namespace Go.Proofs.Qxb6601063a.Wk
open Go.RowKit Go.PlainAid Pl

theorem info5 : (Try.prog.info? 5).map (fun i => (i.zero, i.size, i.bytes)) = some (some (.int .u8 0), 1, 1) := by kernel_rfl

theorem below_drawn {B : Nat} {a w : World} (h : Below B a w) (n : Nat) : Below B a (w.drewN n) := ⟨h.os, h.tape, h.output, h.size, h.block⟩

theorem add_zero_at (g j : Nat) : (⟨g, 0, none⟩ : Addr).add j = ⟨g, j, none⟩ := by
  simp only [Addr.add]
  split <;> simp_all
/-- 'string(pat)' of a row of the call's own. -/
theorem conv_own (w : World) (base g n cap : Nat) (l : List UInt8) (hl : l.length = n) (hown : w.ownsRow base 5 1 (.slice (some ⟨g, 0, none⟩) n cap) n (bv l)) :
    (convert 23 9 (.slice (some ⟨g, 0, none⟩) n cap)).run Try.prog w = .ok (.string (str l)) w := by
  subst hl
  refine run_convert_bytes_back (P := Try.prog) w 23 9 5 ⟨g, 0, none⟩ cap l Try.underlying23 Try.underlying5 Try.underlying9 fun j hj => ?_
  have := hown.cellAt j (by omega)
  have e : (⟨g, 0, none⟩ : Addr).add j = ⟨g, j, none⟩ := add_zero_at g j
  rw [e, this]
  simp [bv, hj]

/-- The two cells that 'append(pat, a, b)' lays first. -/
theorem two_cells (w : World) (a b : Value) (j : Nat) (u : Value) (h : [a, b][j]? = some u) : (w.alloc (.cells #[a, b] 5)).cell? ((⟨w.heap.size, 0, none⟩ : Addr).add j) = some u := by
  match j, h with
  | 0, h => simp at h; subst h; simp [Addr.add]
  | 1, h => simp at h; subst h; simp [Addr.add]
theorem one_two (x y : Int) (u : Value) (h : u ∈ [Value.int .u8 x, Value.int .u8 y]) : u.oneCell' = true := by
  simp at h
  rcases h with rfl | rfl <;> rfl

set_option maxHeartbeats 400000 in
theorem zz13 (s N : ByteArray) (w : World) (h : s.size ≤ 65536) (hn : N.size ≤ 65536) :
    Calls Try.prog 13 #[.string s, .string N] w fun e w' => e = .returned (.bool true) ∧ w = w' := by
  go_enter Try.func13, Try.ntmps13
  go_wp2
  go_ret
  exact ⟨rfl, rfl⟩

set_option maxHeartbeats 1000000 in
theorem walk4 (s N : ByteArray) (hs0 : s.size ≤ maxLen) (hn0 : N.size ≤ maxLen) (w : World) :
    Calls Try.prog 4 #[.string s, .string N] w fun e w' => e = .returned (.bool true) ∧ Below w.heap.size w w' := by
  unfold maxLen at hs0 hn0
  by_cases c1 : 1048576 < s.size
  · go_enter Try.func4, Try.ntmps4
    go_wp2
    go_ret
    exact ⟨rfl, Below.refl _ _⟩
  by_cases c2 : 1048576 < N.size ∨ 1048576 < s.size + N.size
  · by_cases c3 : 1048576 < N.size
    · go_enter Try.func4, Try.ntmps4
      go_wp2
      go_ret
      exact ⟨rfl, Below.refl _ _⟩
    · go_enter Try.func4, Try.ntmps4
      go_wp2
      go_ret
      exact ⟨rfl, Below.refl _ _⟩
  by_cases c3 : 65536 < s.size
  · go_enter Try.func4, Try.ntmps4
    go_wp2
    go_ret
    exact ⟨rfl, Below.refl _ _⟩
  by_cases c4 : 65536 < N.size
  · go_enter Try.func4, Try.ntmps4
    go_wp2
    go_ret
    exact ⟨rfl, Below.refl _ _⟩
  have hs : s.size ≤ 65536 := by omega
  have hn : N.size ≤ 65536 := by omega
  clear c1 c2 c3 c4 hs0 hn0
  have hb := get_bt s
  obtain ⟨i0, hi, hz0, hz1, hz2⟩ := info_parts info5
  go_enter Try.func4, Try.ntmps4
  go_wp2_with (first | (go_at_call 13; refine (zz13 _ _ _ hs hn).mono ?_; rintro e w' ⟨rfl, rfl⟩) | (at_make; refine wpList_make_own _ rfl _ _ 23 rfl w.heap.size 5 i0 (.int .u8 0) 1 Try.underlying23 hi hz0 hz1 _ _ _ (2 * s.size) rfl rfl (by omega) (by rw [hz2]; omega) (by unfold maxLen; omega) (Nat.le_refl _) ?_))
  intro w1 hown hgrow
  have hbel : Below w.heap.size w w1 := (Below.refl _ _).grown hgrow (Nat.le_refl _) (fun k hk => by cases hk)
  clear hgrow
  go_wp2
  go_loopg [5, 6] s.size (fun g v i wr => ∃ k : Nat, k + g = s.size ∧ i = .int .i64 k ∧ v = .slice (some ⟨w.heap.size, 0, none⟩) (2 * k) (2 * s.size) ∧ wr.ownsRow w.heap.size 5 1 v (2 * k) (bv (escL s k)) ∧ Below w.heap.size w wr)
  case atStart => exact ⟨0, by omega, rfl, rfl, hown, hbel⟩
  case round =>
    clear hown hbel
    obtain ⟨k, hk, rfl, rfl, hown, hbel⟩ := hrel
    by_cases hlt : k < s.size
    · go_wp2_with (at_builtin; refine wpList_append_fits _ rfl _ _ 23 rfl w.heap.size 5 i0 1 Try.underlying23 hi hz1 w.heap.size (2 * k) (2 * s.size) (bv (escL s k)) rfl (hown.alloc _) ⟨wr.heap.size, 0, none⟩ 2 2 [.int .u8 92, .int .u8 (bt s k)] rfl rfl (fun j u h => two_cells _ _ _ j u h) (one_two _ _) (by omega) ?_)
      intro w2 hown2 hgrow2
      have hb2 : Below w.heap.size w w2 := ((hbel.alloc hbel.size _).grown hgrow2 (by have := hbel.size; simp; omega) (fun k hk => by cases hk; exact Nat.le_refl _))
      have e1 : bv (escL s k) ++ [Value.int .u8 92, Value.int .u8 (bt s k)] = bv (escL s (k + 1)) := by rw [escL, bv_append, bt_byt]; rfl
      rw [e1] at hown2
      clear e1 hgrow2 hown hbel
      go_wp2
      go_roundg (s.size - (k + 1))
      case measure => omega
      case rel => exact ⟨k + 1, by omega, by go_num, rfl, hown2, hb2⟩
    · have ek : k = s.size := by omega
      subst ek
      have hcv := conv_own _ _ _ _ _ _ (escL_length s s.size) hown
      have hq : Hid (GM (escS s) N 0 0 ↔ (N.toList == s.toList) = true) := esc_only s N
      have hz : (escS s).size ≤ 1073741824 := by rw [escS_size]; omega
      have hes : str (escL s s.size) = escS s := rfl
      rw [hes] at hcv
      clear hown hes
      generalize escS s = E at *
      go_wp2_with (go_at_call 11; refine (ZZmatchGlob_any E N _ hz (by omega)).mono ?_; rintro e w' ⟨r, rfl, hr, d, rfl⟩)
      have hx : r = (N.toList == s.toList) := by rw [Bool.eq_iff_iff, hr, hq.out]
      go_ret
      exact ⟨ret_bool (by rw [hx]; simp), below_drawn hbel _⟩

end Go.Proofs.Qxb6601063a.Wk
