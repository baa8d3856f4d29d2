/-
  THE LAW's OWN WALK: FnMatchByteOnBuiltSet.
-/
import Derived.Test.Qxb6601063aLaw4
import Derived.Test.Qxb6601063aSet
namespace Go.Proofs.Qxb6601063a.Wk
open Go.RowKit Go.PlainAid Pl

set_option maxHeartbeats 400000 in
theorem hasByte_any (s : ByteArray) (b : Int) (w : World) (hs : s.size ≤ 1099511627776) :
    Calls Try.prog 17 #[.string s, .int .u8 b] w fun e w' => e = .returned (.bool (hasTo s b s.size)) ∧ w = w' := by
  have hb := get_bt s
  go_enter Try.func17, Try.ntmps17
  go_wp2
  go_loop [5] (fun i => ∃ k : Nat, k ≤ s.size ∧ i = .int .i64 k ∧ Hid (hasTo s b k = false)) (fun i => s.size - (intOf i).toNat)
  case atStart => exact ⟨0, by omega, rfl, rfl⟩
  case round =>
    obtain ⟨k, hk, rfl, HS⟩ := hrel
    by_cases hlt : k < s.size
    · cases hq : (bt s k == b)
      · have HT : Hid (hasTo s b (k + 1) = false) := by rw [Hid, hasTo, HS.out, hq]; rfl
        go_wp2
        go_round
        case rel => exact ⟨k + 1, by omega, by go_num, HT⟩
        case measure => simp [intOf]; omega
      · have HT : Hid (true = hasTo s b s.size) := (hasTo_hit s b k (by simpa using hq) s.size hlt).symm
        go_wp2
        go_ret
        exact ⟨ret_bool HT.out, rfl⟩
    · have HT : Hid (false = hasTo s b s.size) := by
        have e : k = s.size := by omega
        rw [Hid, ← HS.out, e]
      go_wp2
      go_ret
      exact ⟨ret_bool HT.out, rfl⟩

set_option maxHeartbeats 400000 in
theorem zz15 (s t : ByteArray) (neg : Bool) (b : Int) (w : World) (h : s.size ≤ 65536) (hn : t.size ≤ 65536) :
    Calls Try.prog 15 #[.string s, .string t, .bool neg, .int .u8 b] w fun e w' => e = .returned (.bool true) ∧ w = w' := by
  go_enter Try.func15, Try.ntmps15
  go_wp2
  go_ret
  exact ⟨rfl, rfl⟩

theorem one_cell (w : World) (a : Value) (j : Nat) (u : Value) (h : [a][j]? = some u) : (w.alloc (.cells #[a] 5)).cell? ((⟨w.heap.size, 0, none⟩ : Addr).add j) = some u := by
  match j, h with
  | 0, h => simp at h; subst h; simp [Addr.add]
theorem one_one (x : Int) (u : Value) (h : u ∈ [Value.int .u8 x]) : u.oneCell' = true := by
  simp at h
  subst h; rfl

theorem bel_app {w wr w2 : World} {o : Obj} (hbel : Below w.heap.size w wr) (hg : (wr.alloc o).grownBy w2 (some w.heap.size)) : Below w.heap.size w w2 :=
  (hbel.alloc hbel.size _).grown hg (by have := hbel.size; simp; omega) (fun k hk => by cases hk; exact Nat.le_refl _)

theorem grow_esc (h : List UInt8) (s : ByteArray) (k : Nat) : bv (h ++ escL s k) ++ [Value.int .u8 92, Value.int .u8 (bt s k)] = bv (h ++ escL s (k + 1)) := by
  rw [escL, bt_byt]; simp [bv]
/-- The pattern with the first k bytes of the tail. -/
def setTo (s t : ByteArray) (neg : Bool) (k : Nat) : List UInt8 := hd neg ++ escL s s.size ++ [93] ++ tlL t k
theorem setTo_all (s t : ByteArray) (neg : Bool) : setTo s t neg t.size = setL s t neg := rfl
theorem grow_shut (s t : ByteArray) (neg : Bool) : bv (hd neg ++ escL s s.size) ++ [Value.int .u8 93] = bv (setTo s t neg 0) := by
  simp [bv, setTo, tlL]
theorem grow_tail (s t : ByteArray) (neg : Bool) (k : Nat) : bv (setTo s t neg k) ++ [Value.int .u8 (bt t k)] = bv (setTo s t neg (k + 1)) := by
  rw [setTo, setTo, tlL, bt_byt]; simp [bv]

set_option maxHeartbeats 2000000 in
theorem walk6_f (s t : ByteArray) (b : Int) (w : World) (hs : s.size ≤ 65536) (ht : t.size ≤ 65536) :
    Calls Try.prog 6 #[.string s, .string t, .bool false, .int .u8 b] w fun e w' => e = .returned (.bool true) ∧ Below w.heap.size w w' := by
  have hb := get_bt s
  have hbt := get_bt t
  obtain ⟨i0, hi, hz0, hz1, hz2⟩ := info_parts info5
  go_enter Try.func6, Try.ntmps6
  go_wp2_with (first | (go_at_call 15; refine (zz15 _ _ _ _ _ hs ht).mono ?_; rintro e w' ⟨rfl, rfl⟩) | (at_make; refine wpList_make_own _ rfl _ _ 23 rfl w.heap.size 5 i0 (.int .u8 0) 1 Try.underlying23 hi hz0 hz1 _ _ _ (3 + 2 * s.size + t.size) rfl rfl (by omega) (by rw [hz2]; omega) (by unfold maxLen; omega) (Nat.le_refl _) ?_))
  intro w1 hown hgrow
  have hbel : Below w.heap.size w w1 := (Below.refl _ _).grown hgrow (Nat.le_refl _) (fun k hk => by cases hk)
  clear hgrow
  go_wp2_with (at_builtin; refine wpList_append_fits _ rfl _ _ 23 rfl w.heap.size 5 i0 1 Try.underlying23 hi hz1 w.heap.size 0 (3 + 2 * s.size + t.size) [] rfl (hown.alloc _) ⟨w1.heap.size, 0, none⟩ 1 1 [.int .u8 91] rfl rfl (fun j u h => one_cell _ _ j u h) (one_one _) (by omega) ?_)
  intro w2 hown2 hgrow2
  have hbel2 := bel_app hbel hgrow2
  clear hgrow2 hbel hown
  go_wp2
  go_loopg [9, 10] s.size (fun g v i wr => ∃ k : Nat, k + g = s.size ∧ i = .int .i64 k ∧ v = .slice (some ⟨w.heap.size, 0, none⟩) (1 + 2 * k) (3 + 2 * s.size + t.size) ∧ wr.ownsRow w.heap.size 5 1 v (1 + 2 * k) (bv (hd false ++ escL s k)) ∧ Below w.heap.size w wr)
  case atStart => exact ⟨0, by omega, rfl, rfl, hown2, hbel2⟩
  case round =>
    clear hown2 hbel2
    obtain ⟨k, hk, rfl, rfl, hown, hbel⟩ := hrel
    by_cases hlt : k < s.size
    · go_wp2_with (at_builtin; refine wpList_append_fits _ rfl _ _ 23 rfl w.heap.size 5 i0 1 Try.underlying23 hi hz1 w.heap.size (1 + 2 * k) (3 + 2 * s.size + t.size) (bv (hd false ++ escL s k)) rfl (hown.alloc _) ⟨wr.heap.size, 0, none⟩ 2 2 [.int .u8 92, .int .u8 (bt s k)] rfl rfl (fun j u h => two_cells _ _ _ j u h) (one_two _ _) (by omega) ?_)
      intro w3 hown3 hgrow3
      have hbel3 := bel_app hbel hgrow3
      rw [grow_esc] at hown3
      clear hgrow3 hown hbel
      go_wp2
      go_roundg (s.size - (k + 1))
      case measure => omega
      case rel => exact ⟨k + 1, by omega, by go_num, by rw [show 1 + 2 * k + 2 = 1 + 2 * (k + 1) from by omega], hown3, hbel3⟩
    · have ek : k = s.size := by omega
      subst ek
      clear hk hlt
      go_wp2_with (at_builtin; refine wpList_append_fits _ rfl _ _ 23 rfl w.heap.size 5 i0 1 Try.underlying23 hi hz1 w.heap.size (1 + 2 * s.size) (3 + 2 * s.size + t.size) (bv (hd false ++ escL s s.size)) rfl (hown.alloc _) ⟨wr.heap.size, 0, none⟩ 1 1 [.int .u8 93] rfl rfl (fun j u h => one_cell _ _ j u h) (one_one _) (by omega) ?_)
      intro w3 hown3 hgrow3
      have hbel3 := bel_app hbel hgrow3
      rw [grow_shut s t] at hown3
      clear hgrow3 hown hbel
      go_wp2
      go_loopg [9, 11] t.size (fun g v i wv => ∃ k : Nat, k + g = t.size ∧ i = .int .i64 k ∧ v = .slice (some ⟨w.heap.size, 0, none⟩) (1 + 2 * s.size + 1 + k) (3 + 2 * s.size + t.size) ∧ wv.ownsRow w.heap.size 5 1 v (1 + 2 * s.size + 1 + k) (bv (setTo s t false k)) ∧ Below w.heap.size w wv)
      case atStart => exact ⟨0, by omega, rfl, rfl, hown3, hbel3⟩
      case round =>
        clear hown3 hbel3
        obtain ⟨k, hk, rfl, rfl, hown, hbel⟩ := hrel
        by_cases hlt : k < t.size
        · go_wp2_with (at_builtin; refine wpList_append_fits _ rfl _ _ 23 rfl w.heap.size 5 i0 1 Try.underlying23 hi hz1 w.heap.size (1 + 2 * s.size + 1 + k) (3 + 2 * s.size + t.size) (bv (setTo s t false k)) rfl (hown.alloc _) ⟨wr.heap.size, 0, none⟩ 1 1 [.int .u8 (bt t k)] rfl rfl (fun j u h => one_cell _ _ j u h) (one_one _) (by omega) ?_)
          intro w4 hown4 hgrow4
          have hbel4 := bel_app hbel hgrow4
          rw [grow_tail] at hown4
          clear hgrow4 hown hbel
          go_wp2
          go_roundg (t.size - (k + 1))
          case measure => omega
          case rel => exact ⟨k + 1, by omega, by go_num, rfl, hown4, hbel4⟩
        · have ek : k = t.size := by omega
          subst ek
          clear hk hlt
          rw [setTo_all] at hown
          have hcv := conv_own _ _ _ _ _ (setL s t false) (by rw [← size_str]; show (setS s t false).size = _; rw [setS_size]; rfl) hown
          have hes : str (setL s t false) = setS s t false := rfl
          rw [hes] at hcv
          have hsz := setS_size s t false
          have hnn : hn false = 1 := rfl
          have HC : Hid (∀ wx, Calls Try.prog 16 #[.string (setS s t false), .int .u8 b] wx fun e w' => e = .returned (.tuple #[.int .i64 (2 + 2 * (s.size : Int)), .bool (hasTo s b s.size != false)]) ∧ ∃ n, wx.drewN n = w') := fun wx => by
            have h := ZZmatchByte_any (setS s t false) b wx (by omega) (by omega)
            rw [set_wid, set_oks] at h
            simpa using h
          clear hown hes hsz hnn
          generalize setS s t false = E at *
          have hh : s.size ≤ 1099511627776 := by omega
          go_wp2_with (first | (go_at_call 16; refine (HC.out _).mono ?_; rintro e w' ⟨rfl, n, rfl⟩) | (go_at_call 17; refine (hasByte_any _ _ _ hh).mono ?_; rintro e w' ⟨rfl, rfl⟩))
          go_ret
          exact ⟨ret_bool (by simp), below_drawn hbel _⟩

set_option maxHeartbeats 2000000 in
theorem walk6_t (s t : ByteArray) (b : Int) (w : World) (hs : s.size ≤ 65536) (ht : t.size ≤ 65536) :
    Calls Try.prog 6 #[.string s, .string t, .bool true, .int .u8 b] w fun e w' => e = .returned (.bool true) ∧ Below w.heap.size w w' := by
  have hb := get_bt s
  have hbt := get_bt t
  obtain ⟨i0, hi, hz0, hz1, hz2⟩ := info_parts info5
  go_enter Try.func6, Try.ntmps6
  go_wp2_with (first | (go_at_call 15; refine (zz15 _ _ _ _ _ hs ht).mono ?_; rintro e w' ⟨rfl, rfl⟩) | (at_make; refine wpList_make_own _ rfl _ _ 23 rfl w.heap.size 5 i0 (.int .u8 0) 1 Try.underlying23 hi hz0 hz1 _ _ _ (3 + 2 * s.size + t.size) rfl rfl (by omega) (by rw [hz2]; omega) (by unfold maxLen; omega) (Nat.le_refl _) ?_))
  intro w1 hown hgrow
  have hbel : Below w.heap.size w w1 := (Below.refl _ _).grown hgrow (Nat.le_refl _) (fun k hk => by cases hk)
  clear hgrow
  go_wp2_with (at_builtin; refine wpList_append_fits _ rfl _ _ 23 rfl w.heap.size 5 i0 1 Try.underlying23 hi hz1 w.heap.size 0 (3 + 2 * s.size + t.size) [] rfl (hown.alloc _) ⟨w1.heap.size, 0, none⟩ 1 1 [.int .u8 91] rfl rfl (fun j u h => one_cell _ _ j u h) (one_one _) (by omega) ?_)
  intro w2 hown2 hgrow2
  have hbel2 := bel_app hbel hgrow2
  clear hgrow2 hbel hown
  go_wp2_with (at_builtin; refine wpList_append_fits _ rfl _ _ 23 rfl w.heap.size 5 i0 1 Try.underlying23 hi hz1 w.heap.size 1 (3 + 2 * s.size + t.size) [.int .u8 91] rfl (hown2.alloc _) ⟨w2.heap.size, 0, none⟩ 1 1 [.int .u8 94] rfl rfl (fun j u h => one_cell _ _ j u h) (one_one _) (by omega) ?_)
  intro w2' hown2' hgrow2'
  have hbel2' := bel_app hbel2 hgrow2'
  clear hgrow2' hbel2 hown2
  go_wp2
  go_loopg [9, 10] s.size (fun g v i wr => ∃ k : Nat, k + g = s.size ∧ i = .int .i64 k ∧ v = .slice (some ⟨w.heap.size, 0, none⟩) (2 + 2 * k) (3 + 2 * s.size + t.size) ∧ wr.ownsRow w.heap.size 5 1 v (2 + 2 * k) (bv (hd true ++ escL s k)) ∧ Below w.heap.size w wr)
  case atStart => exact ⟨0, by omega, rfl, rfl, hown2', hbel2'⟩
  case round =>
    clear hown2' hbel2'
    obtain ⟨k, hk, rfl, rfl, hown, hbel⟩ := hrel
    by_cases hlt : k < s.size
    · go_wp2_with (at_builtin; refine wpList_append_fits _ rfl _ _ 23 rfl w.heap.size 5 i0 1 Try.underlying23 hi hz1 w.heap.size (2 + 2 * k) (3 + 2 * s.size + t.size) (bv (hd true ++ escL s k)) rfl (hown.alloc _) ⟨wr.heap.size, 0, none⟩ 2 2 [.int .u8 92, .int .u8 (bt s k)] rfl rfl (fun j u h => two_cells _ _ _ j u h) (one_two _ _) (by omega) ?_)
      intro w3 hown3 hgrow3
      have hbel3 := bel_app hbel hgrow3
      rw [grow_esc] at hown3
      clear hgrow3 hown hbel
      go_wp2
      go_roundg (s.size - (k + 1))
      case measure => omega
      case rel => exact ⟨k + 1, by omega, by go_num, by rw [show 2 + 2 * k + 2 = 2 + 2 * (k + 1) from by omega], hown3, hbel3⟩
    · have ek : k = s.size := by omega
      subst ek
      clear hk hlt
      go_wp2_with (at_builtin; refine wpList_append_fits _ rfl _ _ 23 rfl w.heap.size 5 i0 1 Try.underlying23 hi hz1 w.heap.size (2 + 2 * s.size) (3 + 2 * s.size + t.size) (bv (hd true ++ escL s s.size)) rfl (hown.alloc _) ⟨wr.heap.size, 0, none⟩ 1 1 [.int .u8 93] rfl rfl (fun j u h => one_cell _ _ j u h) (one_one _) (by omega) ?_)
      intro w3 hown3 hgrow3
      have hbel3 := bel_app hbel hgrow3
      rw [grow_shut s t] at hown3
      clear hgrow3 hown hbel
      go_wp2
      go_loopg [9, 11] t.size (fun g v i wv => ∃ k : Nat, k + g = t.size ∧ i = .int .i64 k ∧ v = .slice (some ⟨w.heap.size, 0, none⟩) (2 + 2 * s.size + 1 + k) (3 + 2 * s.size + t.size) ∧ wv.ownsRow w.heap.size 5 1 v (2 + 2 * s.size + 1 + k) (bv (setTo s t true k)) ∧ Below w.heap.size w wv)
      case atStart => exact ⟨0, by omega, rfl, rfl, hown3, hbel3⟩
      case round =>
        clear hown3 hbel3
        obtain ⟨k, hk, rfl, rfl, hown, hbel⟩ := hrel
        by_cases hlt : k < t.size
        · go_wp2_with (at_builtin; refine wpList_append_fits _ rfl _ _ 23 rfl w.heap.size 5 i0 1 Try.underlying23 hi hz1 w.heap.size (2 + 2 * s.size + 1 + k) (3 + 2 * s.size + t.size) (bv (setTo s t true k)) rfl (hown.alloc _) ⟨wr.heap.size, 0, none⟩ 1 1 [.int .u8 (bt t k)] rfl rfl (fun j u h => one_cell _ _ j u h) (one_one _) (by omega) ?_)
          intro w4 hown4 hgrow4
          have hbel4 := bel_app hbel hgrow4
          rw [grow_tail] at hown4
          clear hgrow4 hown hbel
          go_wp2
          go_roundg (t.size - (k + 1))
          case measure => omega
          case rel => exact ⟨k + 1, by omega, by go_num, rfl, hown4, hbel4⟩
        · have ek : k = t.size := by omega
          subst ek
          clear hk hlt
          rw [setTo_all] at hown
          have hcv := conv_own _ _ _ _ _ (setL s t true) (by rw [← size_str]; show (setS s t true).size = _; rw [setS_size]; rfl) hown
          have hes : str (setL s t true) = setS s t true := rfl
          rw [hes] at hcv
          have hsz := setS_size s t true
          have hnn : hn true = 2 := rfl
          have HC : Hid (∀ wx, Calls Try.prog 16 #[.string (setS s t true), .int .u8 b] wx fun e w' => e = .returned (.tuple #[.int .i64 (2 + 2 * (s.size : Int) + 1), .bool (hasTo s b s.size != true)]) ∧ ∃ n, wx.drewN n = w') := fun wx => by
            have h := ZZmatchByte_any (setS s t true) b wx (by omega) (by omega)
            rw [set_wid, set_oks] at h
            simpa using h
          clear hown hes hsz hnn
          generalize setS s t true = E at *
          have hh : s.size ≤ 1099511627776 := by omega
          go_wp2_with (first | (go_at_call 16; refine (HC.out _).mono ?_; rintro e w' ⟨rfl, n, rfl⟩) | (go_at_call 17; refine (hasByte_any _ _ _ hh).mono ?_; rintro e w' ⟨rfl, rfl⟩))
          go_ret
          exact ⟨ret_bool (by simp), below_drawn hbel _⟩

set_option maxHeartbeats 1000000 in
theorem walk6 (s t : ByteArray) (neg : Bool) (b : Int) (hs0 : s.size ≤ maxLen) (hn0 : t.size ≤ maxLen) (w : World) :
    Calls Try.prog 6 #[.string s, .string t, .bool neg, .int .u8 b] w fun e w' => e = .returned (.bool true) ∧ Below w.heap.size w w' := by
  unfold maxLen at hs0 hn0
  by_cases c1 : 1048576 < s.size
  · go_enter Try.func6, Try.ntmps6
    go_wp2
    go_ret
    exact ⟨rfl, Below.refl _ _⟩
  by_cases c2 : 1048576 < t.size
  · go_enter Try.func6, Try.ntmps6
    go_wp2
    go_ret
    exact ⟨rfl, Below.refl _ _⟩
  by_cases c3 : 1048576 < s.size + t.size
  · go_enter Try.func6, Try.ntmps6
    go_wp2
    go_ret
    exact ⟨rfl, Below.refl _ _⟩
  by_cases c4 : 65536 < s.size
  · go_enter Try.func6, Try.ntmps6
    go_wp2
    go_ret
    exact ⟨rfl, Below.refl _ _⟩
  by_cases c5 : 65536 < t.size
  · go_enter Try.func6, Try.ntmps6
    go_wp2
    go_ret
    exact ⟨rfl, Below.refl _ _⟩
  cases neg
  · exact walk6_f s t b w (by omega) (by omega)
  · exact walk6_t s t b w (by omega) (by omega)

end Go.Proofs.Qxb6601063a.Wk
