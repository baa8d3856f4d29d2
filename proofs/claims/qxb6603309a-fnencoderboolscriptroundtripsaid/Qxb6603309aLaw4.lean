/-
  THE LAW's OWN WALK: FnEncoderBoolScriptRoundTrip.
-/
import Derived.Test.Qxb6603309aEnc
namespace Go.Proofs.Qxb6603309a.Wk
open Go.RowKit

/-- What the walk is told of the bools that came in. -/
def Bin (w : World) (a0 : Option Addr) (n cap : Nat) (f : Nat → Bool) : Prop :=
  (a0 = none ∧ n = 0 ∧ cap = 0) ∨ (∃ x, a0 = some x ∧ n = 0) ∨ (∃ g off, a0 = some ⟨g, off, none⟩ ∧ 0 < n ∧ g < w.heap.size ∧ Bs w g off n f)
/-- .. and of the copy. -/
def Cpy (w : World) (a : Option Addr) (n : Nat) (f : Nat → Bool) : Prop :=
  (a = none ∧ n = 0) ∨ ∃ G, a = some ⟨G, 0, none⟩ ∧ G < w.heap.size ∧ Bs w G 0 n f
theorem copy_any (a0 : Option Addr) (n cap : Nat) (f : Nat → Bool) (w : World) (h : Bin w a0 n cap f) (hn : n ≤ 1048576) :
    Calls Try.prog 9 #[.slice a0 n cap] w fun e w' => ∃ a, e = .returned (.slice a n n) ∧ Cpy w' a n f ∧ Below w.heap.size w w' := by
  rcases h with ⟨rfl, rfl, rfl⟩ | ⟨x, rfl, rfl⟩ | ⟨g, off, rfl, h0, hg, hR⟩
  · exact (copy_nil w).mono fun e w' ⟨h1, h2⟩ => ⟨none, h1, Or.inl ⟨rfl, rfl⟩, h2 ▸ Below.refl _ _⟩
  · exact (copy_empty x cap w).mono fun e w' ⟨h1, h2, h3⟩ => ⟨_, h1, Or.inr ⟨_, rfl, h3, fun i hi => absurd hi (by omega)⟩, h2⟩
  · exact (copy_some g off n cap f w hR hg hn).mono fun e w' ⟨h1, h2, h3, h4⟩ => ⟨_, h1, Or.inr ⟨_, rfl, h4, h2⟩, h3⟩

set_option maxHeartbeats 400000 in
theorem zz8 (a0 : Option Addr) (n cap : Nat) (w : World) (hn : n ≤ 1048576) :
    Calls Try.prog 8 #[.slice a0 n cap] w fun e w' => e = .returned (.bool true) ∧ w = w' := by
  go_enter Try.func8, Try.ntmps8
  go_wp2
  go_ret
  exact ⟨rfl, rfl⟩

/-- The bytes behind k bools. -/
def bl (f : Nat → Bool) (k : Nat) : List Value := (List.range k).map fun i => .int .u8 (b2 (f i))
theorem bl_succ (f : Nat → Bool) (k : Nat) : bl f k ++ [.int .u8 (b2 (f k))] = bl f (k + 1) := by simp [bl, List.range_succ]
theorem bl_get (f : Nat → Bool) (k i : Nat) (h : i < k) : (bl f k)[i]? = some (.int .u8 (b2 (f i))) := by simp [bl, h]
/-- What the second loop reads. -/
def Rd (w wv : World) (G g n : Nat) (f : Nat → Bool) : Prop :=
  (∀ i, i < n → wv.cell? ⟨G, i, none⟩ = some (.bool (f i))) ∧ (∀ i, i < n → wv.cell? ⟨g, i, none⟩ = some (.int .u8 (b2 (f i)))) ∧ Below w.heap.size w wv
theorem Rd.drewN {w wv : World} {G g n : Nat} {f : Nat → Bool} (h : Rd w wv G g n f) (k : Nat) : Rd w (wv.drewN k) G g n f := ⟨h.1, h.2.1, below_drewN h.2.2 k⟩

set_option maxHeartbeats 2000000 in
theorem walk4 (a0 : Option Addr) (n cap : Nat) (f : Nat → Bool) (w : World) (h : Bin w a0 n cap f) (hn : n ≤ maxLen) :
    Calls Try.prog 4 #[.slice a0 n cap] w fun e w' => e = .returned (.bool true) ∧ Below w.heap.size w w' := by
  have HH : Hid (Bin w a0 n cap f) := h
  unfold maxLen at hn
  clear h
  by_cases c1 : 1048576 < n
  · go_enter Try.func4, Try.ntmps4
    go_wp2
    go_ret
    exact ⟨rfl, Below.refl _ _⟩
  have hn2 : n ≤ 1048576 := by omega
  clear c1 hn
  go_enter Try.func4, Try.ntmps4
  go_wp2_with (go_at_call 8; refine (zz8 _ _ _ _ hn2).mono ?_; rintro e w' ⟨rfl, rfl⟩)
  refine (copy_any a0 n cap f w HH.out hn2).mono ?_
  rintro e w1 ⟨a1, rfl, hC, hb1⟩
  clear HH
  rcases hC with ⟨rfl, rfl⟩ | ⟨G, rfl, hG, hR⟩
  · go_wp2
    go_rounds 1
    go_rounds 1
    go_ret
    exact ⟨rfl, hb1⟩
  · have HR : Hid (Bs w1 G 0 n f) := hR
    clear hR
    go_wp2
    go_loopg [3, 4] n (fun m xb xi wr => ∃ (k : Nat) (ao : Option Addr) (cp : Nat), k + m = n ∧ xi = .int .i64 k ∧ xb = .slice ao k cp ∧ wr.ownsRow w1.heap.size 5 1 (.slice ao k cp) k (bl f k) ∧ Below w1.heap.size w1 wr)
    case atStart => exact ⟨0, none, 0, by omega, rfl, rfl, World.ownsRow_nil _ _ _ _, Below.refl _ _⟩
    case round =>
      obtain ⟨k, ao, cp, hk, rfl, rfl, hown, hbr⟩ := hrel
      by_cases hlt : k < n
      · have hcell : wr.cell? ⟨G, k, none⟩ = some (.bool (f k)) := by
          have := HR.out k hlt
          rw [Nat.zero_add] at this
          exact (hbr.cell (p := ⟨G, k, none⟩) hG).trans this
        have HO : Hid (wr.ownsRow w1.heap.size 5 1 (.slice ao k cp) k (bl f k)) := hown
        clear hown
        go_wp2_with fail
        refine (ZZEnc_any (f k) k cp w1.heap.size ao _ wr HO.out (by omega) hbr.size).mono ?_
        rintro e w2 ⟨g, cp', rfl, hown2, hb2⟩
        rw [bl_succ] at hown2
        have hbr2 := hbr.trans hb2
        clear hb2 hbr hcell HO
        go_wp2
        go_roundg (n - (k + 1))
        case measure => omega
        case rel => exact ⟨k + 1, _, cp', by omega, by go_num, rfl, hown2, hbr2⟩
      · have ek : k = n := by omega
        subst ek
        have hbw : Below w.heap.size w wr := hb1.trans (hbr.mono hb1.size)
        have hvs : ∀ i, i < k → wr.cell? ⟨G, i, none⟩ = some (.bool (f i)) := fun i hi => by
          have := HR.out i hi
          rw [Nat.zero_add] at this
          exact (hbr.cell (p := ⟨G, i, none⟩) hG).trans this
        have hform : (ao = none ∧ k = 0 ∧ cp = 0) ∨ ∃ g, ao = some ⟨g, 0, none⟩ := by
          rcases hown.2 with ⟨hv, h0⟩ | ⟨g, cap', cur, hv, _⟩
          · left
            cases hv
            exact ⟨rfl, rfl, rfl⟩
          · right
            cases hv
            exact ⟨g, rfl⟩
        clear HR hbr hb1
        rcases hform with ⟨rfl, rfl, rfl⟩ | ⟨g, rfl⟩
        · clear hvs hown
          go_wp2
          go_rounds 1
          go_ret
          exact ⟨rfl, hbw⟩
        · have hRd : Rd w wr G g k f := ⟨hvs, fun i hi => (hown.cellAt i (by omega)).trans (bl_get f k i hi), hbw⟩
          clear hvs hown hbw
          go_wp2
          go_loopg [5] k (fun m xi wv => ∃ t : Nat, t + m = k ∧ xi = .int .i64 t ∧ Rd w wv G g k f)
          case atStart => exact ⟨0, by omega, rfl, hRd⟩
          case round =>
            clear hRd
            obtain ⟨t, ht, rfl, hRd⟩ := hrel
            by_cases htl : t < k
            · have r1 := hRd.1 t htl
              have r2 := hRd.2.1 t htl
              cases hft : f t
              · rw [hft] at r1 r2
                have r3 : wr.cell? ⟨g, t, none⟩ = some (.int .u8 0) := r2
                clear r2
                go_wp2
                go_quiet (fail)
                go_wp2
                go_roundg (k - (t + 1))
                case measure => omega
                case rel => exact ⟨t + 1, by omega, by go_num, hRd.drewN _⟩
              · rw [hft] at r1 r2
                have r3 : wr.cell? ⟨g, t, none⟩ = some (.int .u8 1) := r2
                clear r2
                go_wp2
                go_quiet (fail)
                go_wp2
                go_roundg (k - (t + 1))
                case measure => omega
                case rel => exact ⟨t + 1, by omega, by go_num, hRd.drewN _⟩
            · go_wp2
              go_ret
              exact ⟨rfl, hRd.2.2⟩

end Go.Proofs.Qxb6603309a.Wk
