/-
  PLAIN: a text with every byte escaped, as a pattern, matches that text alone.
-/
import Derived.Test.Qxb6601063aGlob
namespace Go.Proofs.Qxb6601063a.Pl
open Go.PlainAid

/-- Bytes as the cells of a slice. -/
def bv (l : List UInt8) : List Value := l.map fun b => .int .u8 (b.toNat : Int)
theorem bv_length (l : List UInt8) : (bv l).length = l.length := by simp [bv]
theorem bv_append (l m : List UInt8) : bv (l ++ m) = bv l ++ bv m := by simp [bv]
/-- Byte k of a string. -/
def byt (s : ByteArray) (k : Nat) : UInt8 := s.data.toList.getD k 0
theorem bt_byt (s : ByteArray) (k : Nat) : bt s k = ((byt s k).toNat : Int) := bt_list s k
/-- The string that bytes make. -/
def str (l : List UInt8) : ByteArray := ⟨l.toArray⟩
theorem size_str (l : List UInt8) : (str l).size = l.length := by simp [str, ByteArray.size]
theorem bt_str (l : List UInt8) (k : Nat) : bt (str l) k = ((l.getD k 0).toNat : Int) := by rw [bt_list]; simp [str]

/-- The first k bytes of s, each behind a backslash. -/
def escL (s : ByteArray) : Nat → List UInt8
  | 0 => []
  | k + 1 => escL s k ++ [92, byt s k]
theorem escL_length (s : ByteArray) : ∀ k, (escL s k).length = 2 * k
  | 0 => rfl
  | k + 1 => by simp [escL, escL_length s k]; omega
theorem escL_get (s : ByteArray) : ∀ (k i : Nat), i < k → (escL s k).getD (2 * i) 0 = 92 ∧ (escL s k).getD (2 * i + 1) 0 = byt s i
  | 0, _, h => absurd h (by omega)
  | k + 1, i, h => by
    have hl := escL_length s k
    by_cases e : i < k
    · have ih := escL_get s k i e
      simp only [escL, List.getD_eq_getElem?_getD] at ih ⊢
      rw [List.getElem?_append_left (by omega), List.getElem?_append_left (by omega)]
      exact ih
    · have e' : i = k := by omega
      subst e'
      simp only [escL, List.getD_eq_getElem?_getD]
      rw [List.getElem?_append_right (by omega), List.getElem?_append_right (by omega), hl]
      have a1 : 2 * i - 2 * i = 0 := by omega
      have a2 : 2 * i + 1 - 2 * i = 1 := by omega
      rw [a1, a2]
      exact ⟨rfl, rfl⟩

theorem toList_eq_iff (a b : ByteArray) : (a.toList == b.toList) = true ↔ a.size = b.size ∧ ∀ j, j < a.size → bt a j = bt b j := by
  rw [Lib.toList_data, Lib.toList_data, beq_iff_eq]
  constructor
  · intro h
    refine ⟨by rw [Lib.size_eq, Lib.size_eq, h], fun j _ => by rw [bt_list, bt_list, h]⟩
  · rintro ⟨h1, h2⟩
    have l1 := Lib.size_eq a
    have l2 := Lib.size_eq b
    refine List.ext_getElem (by omega) fun j j1 j2 => ?_
    have := h2 j (by omega)
    rw [bt_list, bt_list, List.getD_eq_getElem?_getD, List.getD_eq_getElem?_getD, List.getElem?_eq_getElem j1, List.getElem?_eq_getElem j2] at this
    simp only [Option.getD_some] at this
    exact UInt8.toNat_inj.1 (by omega)

/-- The pattern that a text with every byte escaped makes. -/
def escS (s : ByteArray) : ByteArray := str (escL s s.size)
theorem escS_size (s : ByteArray) : (escS s).size = 2 * s.size := by rw [escS, size_str, escL_length]
theorem escS_even (s : ByteArray) (i : Nat) (h : i < s.size) : bt (escS s) (2 * i) = 92 := by
  rw [escS, bt_str, (escL_get s s.size i h).1]; rfl
theorem escS_odd (s : ByteArray) (i : Nat) (h : i < s.size) : bt (escS s) (2 * i + 1) = bt s i := by
  rw [escS, bt_str, (escL_get s s.size i h).2, bt_byt]

theorem esc_wid (s : ByteArray) (i : Nat) (h : i < s.size) : wid (escS s) (2 * i) = 2 := by
  have hz := escS_size s
  unfold wid mbW
  rw [bt_cut _ _ _ _ (by omega), size_cut, Nat.add_zero, escS_even s i h, if_neg (by decide), if_pos rfl, if_pos (by omega)]
  rfl
theorem esc_oks (s : ByteArray) (i : Nat) (b : Int) (h : i < s.size) : oks (escS s) (2 * i) b = (bt s i == b) := by
  have hz := escS_size s
  unfold oks mbO
  rw [bt_cut _ _ _ _ (by omega), bt_cut _ _ _ _ (by omega), size_cut, Nat.add_zero, escS_even s i h, if_neg (by decide), if_pos rfl, if_pos (by omega), escS_odd s i h]

theorem esc_match (s N : ByteArray) : ∀ (d i n : Nat), i + d = s.size → n ≤ N.size → (GM (escS s) N (2 * i) n ↔ N.size = n + d ∧ ∀ j, j < d → bt N (n + j) = bt s (i + j))
  | 0, i, n, hi, hn => by
    rw [GM_end _ _ _ _ (by rw [escS_size]; omega)]
    exact ⟨fun h => ⟨by omega, fun j hj => absurd hj (by omega)⟩, fun h => by omega⟩
  | d + 1, i, n, hi, hn => by
    have hlt : i < s.size := by omega
    rw [GM_byte _ _ _ _ (by rw [escS_size]; omega) (by rw [escS_even s i hlt]; decide), esc_wid s i hlt, esc_oks s i _ hlt]
    have e : 2 * i + 2 = 2 * (i + 1) := by omega
    rw [e, beq_iff_eq]
    by_cases hlt2 : n < N.size
    · rw [esc_match s N d (i + 1) (n + 1) (by omega) (by omega)]
      constructor
      · rintro ⟨_, h1, h2, h3⟩
        refine ⟨by omega, fun j hj => ?_⟩
        by_cases e : j = 0
        · subst e; simpa using h1.symm
        · have := h3 (j - 1) (by omega)
          have a1 : n + 1 + (j - 1) = n + j := by omega
          have a2 : i + 1 + (j - 1) = i + j := by omega
          rw [a1, a2] at this
          exact this
      · rintro ⟨h1, h2⟩
        refine ⟨hlt2, by simpa using (h2 0 (by omega)).symm, by omega, fun j hj => ?_⟩
        have := h2 (j + 1) (by omega)
        have a1 : n + 1 + j = n + (j + 1) := by omega
        have a2 : i + 1 + j = i + (j + 1) := by omega
        rw [a1, a2]
        exact this
    · exact ⟨fun h => absurd h.1 hlt2, fun h => by omega⟩

theorem esc_only (s N : ByteArray) : GM (escS s) N 0 0 ↔ (N.toList == s.toList) = true := by
  rw [toList_eq_iff]
  have h := esc_match s N s.size 0 0 (by omega) (by omega)
  simp only [Nat.mul_zero, Nat.zero_add] at h
  rw [h]
  exact ⟨fun ⟨a, b⟩ => ⟨a, fun j hj => b j (by omega)⟩, fun ⟨a, b⟩ => ⟨a, fun j hj => b j (by omega)⟩⟩

end Go.Proofs.Qxb6601063a.Pl
