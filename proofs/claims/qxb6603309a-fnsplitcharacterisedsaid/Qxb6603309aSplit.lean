/-
  THE WALKS of split: zzB1HasSlash, strings.LastIndexByte, split, ZZSplit.
-/
import Derived.Test.Qxb6603309aRows
import Derived.WalkKit
import Derived.WalkLawsBesides
import Derived.WalkSpells
import Derived.Deep.QuietTactic
import Derived.BigQuiet
import Derived.Outline
import Derived.Handy
import Derived.Deep.DeepCutAuto
import Derived.PlainAid
import Derived.Lib.Strings
import Derived.Lib.IndexBytes
namespace Go.Proofs.Qxb6603309a.Wk
open Go.RowKit Go.PlainAid

theorem ret_int {k : IntKind} {a b : Int} (h : a = b) : Ending.returned (.int k a) = .returned (.int k b) := by rw [h]
theorem ret_bool {a b : Bool} (h : a = b) : Ending.returned (.bool a) = .returned (.bool b) := by rw [h]

/-- Is a slash among the first k bytes? -/
def slTo (s : ByteArray) : Nat → Bool
  | 0 => false
  | k + 1 => slTo s k || (bt s k == 47)
theorem slTo_hit (s : ByteArray) (i : Nat) (h : bt s i = 47) : ∀ k, i < k → slTo s k = true
  | 0, hk => absurd hk (by omega)
  | k + 1, hk => by
    unfold slTo
    by_cases e : i = k
    · subst e; simp [h]
    · rw [slTo_hit s i h k (by omega)]; rfl
theorem slTo_false (s : ByteArray) : ∀ k, (∀ i, i < k → ¬ bt s i = 47) → slTo s k = false
  | 0, _ => rfl
  | k + 1, h => by
    have h1 := slTo_false s k (fun i hi => h i (by omega))
    have h2 : (bt s k == 47) = false := by rw [beq_eq_false_iff_ne]; exact h k (by omega)
    rw [slTo, h1, h2]; rfl
/-- The last slash among the first k bytes, or -1. -/
def lsTo (s : ByteArray) : Nat → Int
  | 0 => -1
  | k + 1 => if bt s k = 47 then (k : Int) else lsTo s k
theorem lsTo_spec (s : ByteArray) : ∀ k, (lsTo s k = -1 ∧ slTo s k = false) ∨ ∃ i : Nat, i < k ∧ lsTo s k = (i : Int) ∧ bt s i = 47 ∧ ∀ j, i < j → j < k → ¬ bt s j = 47
  | 0 => Or.inl ⟨rfl, rfl⟩
  | k + 1 => by
    by_cases e : bt s k = 47
    · exact Or.inr ⟨k, by omega, by rw [lsTo, if_pos e], e, fun j h1 h2 => absurd h1 (by omega)⟩
    · have hl : lsTo s (k + 1) = lsTo s k := by rw [lsTo, if_neg e]
      rcases lsTo_spec s k with ⟨h1, h2⟩ | ⟨i, h1, h2, h3, h4⟩
      · exact Or.inl ⟨hl.trans h1, by rw [slTo, h2, beq_eq_false_iff_ne.2 e]; rfl⟩
      · refine Or.inr ⟨i, by omega, hl.trans h2, h3, fun j j1 j2 => ?_⟩
        by_cases ej : j = k
        · rw [ej]; exact e
        · exact h4 j j1 (by omega)

set_option maxHeartbeats 400000 in
theorem hasSlash_any (s : ByteArray) (w : World) (hs : s.size ≤ 1099511627776) :
    Calls Try.prog 6 #[.string s] w fun e w' => e = .returned (.bool (slTo s s.size)) ∧ w = w' := by
  have hb := get_bt s
  go_enter Try.func6, Try.ntmps6
  go_wp2
  go_loop [3] (fun i => ∃ k : Nat, k ≤ s.size ∧ i = .int .i64 k ∧ Hid (slTo s k = false)) (fun i => s.size - (intOf i).toNat)
  case atStart => exact ⟨0, by omega, rfl, rfl⟩
  case round =>
    obtain ⟨k, hk, rfl, HS⟩ := hrel
    by_cases hlt : k < s.size
    · cases hq : (bt s k == 47)
      · have HT : Hid (slTo s (k + 1) = false) := by rw [Hid, slTo, HS.out, hq]; rfl
        go_wp2
        go_round
        case rel => exact ⟨k + 1, by omega, by go_num, HT⟩
        case measure => simp [intOf]; omega
      · have HT : Hid (true = slTo s s.size) := (slTo_hit s k (by simpa using hq) s.size hlt).symm
        go_wp2
        go_ret
        exact ⟨ret_bool HT.out, rfl⟩
    · have HT : Hid (false = slTo s s.size) := by
        have e : k = s.size := by omega
        rw [Hid, ← HS.out, e]
      go_wp2
      go_ret
      exact ⟨ret_bool HT.out, rfl⟩

set_option maxHeartbeats 400000 in
theorem last_any (s : ByteArray) (w : World) (hs : s.size ≤ 1099511627776) :
    Calls Try.prog 14 #[.string s, .int .u8 47] w fun e w' => e = .returned (.int .i64 (lsTo s s.size)) ∧ w = w' := by
  have hb := get_bt s
  go_enter Try.func14, Try.ntmps14
  go_wp2
  go_loopg [5] s.size (fun g i wr => i = .int .i64 ((g : Int) - 1) ∧ g ≤ s.size ∧ Hid (lsTo s s.size = lsTo s g) ∧ w = wr)
  case atStart => exact ⟨rfl, Nat.le_refl _, rfl, rfl⟩
  case round =>
    obtain ⟨rfl, hg, HS, rfl⟩ := hrel
    by_cases h0 : gk = 0
    · subst h0
      go_wp2
      go_ret
      exact ⟨ret_int (by rw [HS.out]; rfl), rfl⟩
    · obtain ⟨k, rfl⟩ : ∃ k, gk = k + 1 := ⟨gk - 1, by omega⟩
      have ec : ((k + 1 : Nat) : Int) - 1 = (k : Int) := by omega
      rw [ec]
      have hlt : k < s.size := by omega
      clear ec h0
      cases hq : (bt s k == 47)
      · have HT : Hid (lsTo s s.size = lsTo s k) := by rw [Hid, HS.out, lsTo, if_neg (by simpa using hq)]
        go_wp2
        go_roundg k
        case measure => omega
        case rel => exact ⟨rfl, by omega, HT, rfl⟩
      · have HT : Hid ((k : Int) = lsTo s s.size) := by rw [Hid, HS.out, lsTo, if_pos (by simpa using hq)]
        go_wp2
        go_ret
        exact ⟨ret_int HT.out, rfl⟩

set_option maxHeartbeats 400000 in
theorem lastIndex_any (s : ByteArray) (w : World) (hs : s.size ≤ 1099511627776) :
    Calls Try.prog 13 #[.string s, .int .u8 47] w fun e w' => e = .returned (.int .i64 (lsTo s s.size)) ∧ w = w' := by
  go_enter Try.func13, Try.ntmps13
  go_wp2_with (go_at_call 14; refine (last_any _ _ hs).mono ?_; rintro e w' ⟨rfl, rfl⟩)
  go_ret
  exact ⟨rfl, rfl⟩

/-- The slash at i is the last one: what split answers. -/
def dirOf (s : ByteArray) (i : Nat) : ByteArray := if i = 0 then ⟨#[47]⟩ else s.extract 0 i
def nameOf (s : ByteArray) (i : Nat) : ByteArray := s.extract (i + 1) s.size

set_option maxHeartbeats 1000000 in
theorem split_any (s : ByteArray) (i : Nat) (w : World) (hs : s.size ≤ 1099511627776) (hi : i < s.size) (hl : lsTo s s.size = (i : Int)) :
    Calls Try.prog 11 #[.string s] w fun e w' => e = .returned (.tuple #[.string (dirOf s i), .string (nameOf s i)]) ∧ ∃ n, w.drewN n = w' := by
  have HC : Hid (∀ wx, Calls Try.prog 13 #[.string s, .int .u8 47] wx fun e w' => e = .returned (.int .i64 (i : Int)) ∧ wx = w') := fun wx => by
    rw [← hl]; exact lastIndex_any s wx hs
  clear hl
  by_cases h0 : i = 0
  · subst h0
    have hd : Hid (dirOf s 0 = ⟨#[47]⟩) := rfl
    have hm : Hid (nameOf s 0 = s.extract 1 s.size) := rfl
    have h1 : 1 ≤ s.size := by omega
    go_enter Try.func11, Try.ntmps11
    go_wp2_with (go_at_call 13; refine (HC.out _).mono ?_; rintro e w' ⟨rfl, rfl⟩)
    go_quiet (fail)
    go_wp2
    go_ret2
    exact ⟨by rw [hd.out, hm.out]; rfl, _, rfl⟩
  · have hd : Hid (dirOf s i = s.extract 0 i) := by rw [Hid, dirOf, if_neg h0]
    have hm : Hid (nameOf s i = s.extract (i + 1) s.size) := rfl
    have k0 : ((i : Int) == 0) = false := by rw [beq_eq_false_iff_ne]; omega
    go_enter Try.func11, Try.ntmps11
    go_wp2_with (go_at_call 13; refine (HC.out _).mono ?_; rintro e w' ⟨rfl, rfl⟩)
    go_quiet (fail)
    go_wp2
    go_ret2
    exact ⟨by rw [hd.out, hm.out]; rfl, _, rfl⟩

set_option maxHeartbeats 400000 in
theorem ZZSplit_any (s : ByteArray) (i : Nat) (w : World) (hs : s.size ≤ 1099511627776) (hi : i < s.size) (hl : lsTo s s.size = (i : Int)) :
    Calls Try.prog 7 #[.string s] w fun e w' => e = .returned (.tuple #[.string (dirOf s i), .string (nameOf s i)]) ∧ ∃ n, w.drewN n = w' := by
  have HC : Hid (∀ wx, Calls Try.prog 11 #[.string s] wx fun e w' => e = .returned (.tuple #[.string (dirOf s i), .string (nameOf s i)]) ∧ ∃ n, wx.drewN n = w') := fun wx => split_any s i wx hs hi hl
  clear hl
  go_enter Try.func7, Try.ntmps7
  go_wp2_with (go_at_call 11; refine (HC.out _).mono ?_; rintro e w' ⟨rfl, n, rfl⟩)
  go_ret2
  exact ⟨rfl, n, rfl⟩

end Go.Proofs.Qxb6603309a.Wk
