/-
  THE WALKS of seenFits, zzBytes, copyEntries.
-/
import Derived.Test.Qxb6603249aWalks
namespace Go.Proofs.Qxb6603249a.Wk
open Go.RowKit

/-- One row of what was heard, as plain data. -/
structure Ent where
  nm : ByteArray
  a : Int
  b : Int
  c : Int
  d : Int
  v : Int

/-- The rows' cells lie behind the address ⟨g, off⟩: six a row. -/
def Rows6 (w : World) (g off n : Nat) (f : Nat → Ent) : Prop :=
  ∀ i, i < n → w.cell? ⟨g, off + i * 6, none⟩ = some (.string (f i).nm) ∧ w.cell? ⟨g, off + i * 6 + 1, none⟩ = some (.int .u64 (f i).a) ∧ w.cell? ⟨g, off + i * 6 + 2, none⟩ = some (.int .u64 (f i).b) ∧
    w.cell? ⟨g, off + i * 6 + 3, none⟩ = some (.int .u64 (f i).c) ∧ w.cell? ⟨g, off + i * 6 + 4, none⟩ = some (.int .u64 (f i).d) ∧ w.cell? ⟨g, off + i * 6 + 5, none⟩ = some (.int .u64 (f i).v)

set_option maxHeartbeats 1000000 in
theorem fits_some (N : ByteArray) (g off n cap : Nat) (f : Nat → Ent) (w : World) (hR : Rows6 w g off n f) (hn : n ≤ 9223372036854775807) (hN : N.size ≤ 9223372036854775807) :
    Calls Try.prog 12 #[.string N, .slice (some ⟨g, off, none⟩) n cap] w fun e w' => ∃ r : Bool, e = .returned (.bool r) ∧ (r = true → n ≤ 4096) ∧ w = w' := by
  by_cases c1 : 4096 < n
  · have k1 : decide ((4096 : Int) < (n : Int)) = true := decide_eq_true (by omega)
    go_enter Try.func12, Try.ntmps12
    go_wp2
    go_ret
    exact ⟨false, rfl, fun h => (by simp at h), rfl⟩
  have k1 : decide ((4096 : Int) < (n : Int)) = false := decide_eq_false (by omega)
  by_cases c2 : 1048576 < N.size
  · have k2 : decide ((1048576 : Int) < (N.size : Int)) = true := decide_eq_true (by omega)
    go_enter Try.func12, Try.ntmps12
    go_wp2
    go_ret
    exact ⟨false, rfl, fun h => (by simp at h), rfl⟩
  have k2 : decide ((1048576 : Int) < (N.size : Int)) = false := decide_eq_false (by omega)
  by_cases c3 : 1048576 < N.size + 56 * n
  · go_enter Try.func12, Try.ntmps12
    go_wp2
    go_ret
    exact ⟨false, rfl, fun h => (by simp at h), rfl⟩
  go_enter Try.func12, Try.ntmps12
  go_wp2
  go_loopg [5, 6] n (fun m xt xi wr => ∃ (k : Nat) (t : Int), k + m = n ∧ xi = .int .i64 k ∧ xt = .int .i64 t ∧ 0 ≤ t ∧ t ≤ 1048576 ∧ w = wr)
  case atStart => exact ⟨0, _, by omega, rfl, rfl, by omega, by omega, rfl⟩
  case round =>
    obtain ⟨k, t, hk, rfl, rfl, ht0, ht1, rfl⟩ := hrel
    by_cases hlt : k < n
    · obtain ⟨hc, -⟩ := hR k hlt
      generalize (f k).nm = S at *
      by_cases d1 : 1048576 < S.size
      · go_wp2
        go_ret
        exact ⟨false, rfl, fun h => (by simp at h), rfl⟩
      by_cases d2 : 1048576 < t + S.size
      · go_wp2
        go_ret
        exact ⟨false, rfl, fun h => (by simp at h), rfl⟩
      go_wp2
      go_roundg (n - (k + 1))
      case measure => omega
      case rel => exact ⟨k + 1, _, by omega, by go_num, rfl, by omega, by omega, rfl⟩
    · go_wp2
      go_ret
      exact ⟨true, rfl, fun _ => by omega, rfl⟩

set_option maxHeartbeats 1000000 in
theorem fits_none (N : ByteArray) (a : Option Addr) (cap : Nat) (w : World) (hN : N.size ≤ 9223372036854775807) :
    Calls Try.prog 12 #[.string N, .slice a 0 cap] w fun e w' => ∃ r : Bool, e = .returned (.bool r) ∧ (r = true → 0 ≤ 4096) ∧ w = w' := by
  by_cases c2 : 1048576 < N.size
  · go_enter Try.func12, Try.ntmps12
    go_wp2
    go_ret
    exact ⟨false, rfl, fun _ => by omega, rfl⟩
  go_enter Try.func12, Try.ntmps12
  go_wp2
  go_rounds 1
  go_ret
  exact ⟨true, rfl, fun _ => by omega, rfl⟩

set_option maxHeartbeats 1000000 in
theorem bytes_some (x1 x2 x3 x4 x5 q : Int) (N : ByteArray) (g off n cap : Nat) (f : Nat → Ent) (w : World) (hR : Rows6 w g off n f) (hn : n ≤ 9223372036854775807) (hN : N.size ≤ 9223372036854775807) :
    Calls Try.prog 16 #[.int .u64 x1, .int .u64 x2, .int .u64 x3, .int .u64 x4, .int .u64 x5, .string N, .slice (some ⟨g, off, none⟩) n cap, .int .i64 q] w fun e w' => ∃ r : Bool, e = .returned (.bool r) ∧ w = w' := by
  by_cases c2 : 1048576 < N.size
  · go_enter Try.func16, Try.ntmps16
    go_wp2
    go_ret
    exact ⟨false, rfl, rfl⟩
  by_cases c1 : 1048576 < n
  · go_enter Try.func16, Try.ntmps16
    go_wp2
    go_ret
    exact ⟨false, rfl, rfl⟩
  by_cases c3 : 1048576 < N.size + n
  · go_enter Try.func16, Try.ntmps16
    go_wp2
    go_ret
    exact ⟨false, rfl, rfl⟩
  go_enter Try.func16, Try.ntmps16
  go_wp2
  go_loopg [17, 18] n (fun m xt xi wr => ∃ (k : Nat) (t : Int), k + m = n ∧ xi = .int .i64 k ∧ xt = .int .i64 t ∧ 0 ≤ t ∧ t ≤ 1048576 ∧ w = wr)
  case atStart => exact ⟨0, _, by omega, rfl, rfl, by omega, by omega, rfl⟩
  case round =>
    obtain ⟨k, t, hk, rfl, rfl, ht0, ht1, rfl⟩ := hrel
    by_cases hlt : k < n
    · obtain ⟨hc, -⟩ := hR k hlt
      generalize (f k).nm = S at *
      by_cases d1 : 1048576 < S.size
      · go_wp2
        go_ret
        exact ⟨false, rfl, rfl⟩
      by_cases d2 : 1048576 < t + S.size
      · go_wp2
        go_ret
        exact ⟨false, rfl, rfl⟩
      go_wp2
      go_roundg (n - (k + 1))
      case measure => omega
      case rel => exact ⟨k + 1, _, by omega, by go_num, rfl, by omega, by omega, rfl⟩
    · go_wp2
      go_ret
      exact ⟨true, rfl, rfl⟩

set_option maxHeartbeats 1000000 in
theorem bytes_none (x1 x2 x3 x4 x5 q : Int) (N : ByteArray) (a : Option Addr) (cap : Nat) (w : World) (hN : N.size ≤ 9223372036854775807) :
    Calls Try.prog 16 #[.int .u64 x1, .int .u64 x2, .int .u64 x3, .int .u64 x4, .int .u64 x5, .string N, .slice a 0 cap, .int .i64 q] w fun e w' => ∃ r : Bool, e = .returned (.bool r) ∧ w = w' := by
  by_cases c2 : 1048576 < N.size
  · go_enter Try.func16, Try.ntmps16
    go_wp2
    go_ret
    exact ⟨false, rfl, rfl⟩
  go_enter Try.func16, Try.ntmps16
  go_wp2
  go_rounds 1
  go_ret
  exact ⟨true, rfl, rfl⟩

end Go.Proofs.Qxb6603249a.Wk
