/-
  PLAIN: the automaton over a glob's elements answers what the glob means; and the cells of a row, as a function of the index.
-/
import Derived.Test.Qxb6601063aGlob
import Derived.Laws.OwnMore
import Derived.Deep.Draws
namespace Go.Proofs.Qxb6601063a.Pl
open Go.PlainAid

/-- Where the k-th element of the pattern begins. -/
def stp (P : ByteArray) : Nat → Nat
  | 0 => 0
  | k + 1 => if stp P k < P.size then (if bt P (stp P k) = 42 then stp P k + 1 else stp P k + wid P (stp P k)) else stp P k
theorem stp_le (P : ByteArray) : ∀ k, stp P k ≤ P.size
  | 0 => Nat.zero_le _
  | k + 1 => by
    have ih := stp_le P k
    unfold stp
    by_cases h : stp P k < P.size
    · have hw := wid_range P _ h
      rw [if_pos h]
      split <;> omega
    · rw [if_neg h]; omega
theorem stp_star (P : ByteArray) (k : Nat) (h : stp P k < P.size) (hs : bt P (stp P k) = 42) : stp P (k + 1) = stp P k + 1 := by
  rw [stp, if_pos h, if_pos hs]
theorem stp_byte (P : ByteArray) (k : Nat) (h : stp P k < P.size) (hs : ¬ bt P (stp P k) = 42) : stp P (k + 1) = stp P k + wid P (stp P k) := by
  rw [stp, if_pos h, if_neg hs]

/-- What the automaton's positions are worth behind k elements. -/
def AI (P N : ByteArray) (k : Nat) (C : Nat → Bool) : Prop := GM P N 0 0 ↔ ∃ t, t ≤ N.size ∧ C t = true ∧ GM P N (stp P k) t

theorem ai_start (P N : ByteArray) (C : Nat → Bool) (h0 : C 0 = true) (h1 : ∀ j, 0 < j → j ≤ N.size → C j = false) : AI P N 0 C := by
  constructor
  · intro h; exact ⟨0, Nat.zero_le _, h0, h⟩
  · rintro ⟨t, h2, h3, h4⟩
    by_cases e : t = 0
    · subst e; exact h4
    · rw [h1 t (by omega) h2] at h3; exact absurd h3 (by decide)

/-- Is one of the first k true? -/
def orTo (C : Nat → Bool) : Nat → Bool
  | 0 => false
  | k + 1 => orTo C k || C k
theorem orTo_iff (C : Nat → Bool) : ∀ k, orTo C k = true ↔ ∃ j, j < k ∧ C j = true
  | 0 => ⟨fun h => absurd (show false = true from h) (by decide), fun ⟨j, h, _⟩ => absurd h (by omega)⟩
  | k + 1 => by
    rw [orTo, Bool.or_eq_true, orTo_iff C k]
    constructor
    · rintro (⟨j, h1, h2⟩ | h)
      · exact ⟨j, by omega, h2⟩
      · exact ⟨k, by omega, h⟩
    · rintro ⟨j, h1, h2⟩
      by_cases e : j = k
      · subst e; exact Or.inr h2
      · exact Or.inl ⟨j, by omega, h2⟩

theorem ai_star (P N : ByteArray) (k : Nat) (C D : Nat → Bool) (h : AI P N k C) (hp : stp P k < P.size) (hs : bt P (stp P k) = 42) (hD : ∀ j, j ≤ N.size → D j = orTo C (j + 1)) : AI P N (k + 1) D := by
  unfold AI at *
  rw [h, stp_star P k hp hs]
  constructor
  · rintro ⟨t, h1, h2, h3⟩
    obtain ⟨m, m1, m2, m3⟩ := (GM_star P N _ _ hp hs).1 h3
    exact ⟨m, m2, by rw [hD m m2, orTo_iff]; exact ⟨t, by omega, h2⟩, m3⟩
  · rintro ⟨m, m1, m2, m3⟩
    rw [hD m m1, orTo_iff] at m2
    obtain ⟨t, t1, t2⟩ := m2
    exact ⟨t, by omega, t2, (GM_star P N _ _ hp hs).2 ⟨m, by omega, m1, m3⟩⟩

theorem ai_byte (P N : ByteArray) (k : Nat) (C D : Nat → Bool) (h : AI P N k C) (hp : stp P k < P.size) (hs : ¬ bt P (stp P k) = 42) (h0 : D 0 = false) (hD : ∀ j, j < N.size → D (j + 1) = (C j && oks P (stp P k) (bt N j))) : AI P N (k + 1) D := by
  unfold AI at *
  rw [h, stp_byte P k hp hs]
  constructor
  · rintro ⟨t, h1, h2, h3⟩
    obtain ⟨m1, m2, m3⟩ := (GM_byte P N _ _ hp hs).1 h3
    exact ⟨t + 1, by omega, by rw [hD t m1, h2, m2]; rfl, m3⟩
  · rintro ⟨m, m1, m2, m3⟩
    match m, m1, m2, m3 with
    | 0, _, m2, _ => rw [h0] at m2; exact absurd m2 (by decide)
    | t + 1, m1, m2, m3 =>
      rw [hD t (by omega), Bool.and_eq_true] at m2
      exact ⟨t, by omega, m2.1, (GM_byte P N _ _ hp hs).2 ⟨by omega, m2.2, m3⟩⟩

theorem ai_end (P N : ByteArray) (k : Nat) (C : Nat → Bool) (h : AI P N k C) (hp : P.size ≤ stp P k) : C N.size = true ↔ GM P N 0 0 := by
  unfold AI at h
  rw [h]
  constructor
  · intro c; exact ⟨N.size, Nat.le_refl _, c, (GM_end P N _ _ hp).2 rfl⟩
  · rintro ⟨t, _, h2, h3⟩
    rw [(GM_end P N _ _ hp).1 h3] at h2
    exact h2

/-! ### The cells of a row, as a function of the index -/
def Cl (w : World) (g n : Nat) (f : Nat → Value) : Prop := ∀ j, j < n → w.cell? ⟨g, j, none⟩ = some (f j) ∧ w.frozen? ⟨g, j, none⟩ = false

theorem Cl.set_other {w : World} {g n b t : Nat} {f : Nat → Value} (h : Cl w g n f) (hne : b ≠ g) (v : Value) : Cl (w.setCell ⟨b, t, none⟩ v) g n f := fun j hj => by
  have hx : (⟨b, t, none⟩ : Addr) ≠ ⟨g, j, none⟩ := fun e => hne (congrArg Addr.block e)
  exact ⟨(World.cell?_setCell_other _ _ _ _ hx).trans (h j hj).1, by rw [World.frozen?_setCell]; exact (h j hj).2⟩
theorem Cl.set_same {w : World} {g n t : Nat} {f : Nat → Value} (h : Cl w g n f) (ht : t < n) (v : Value) : Cl (w.setCell ⟨g, t, none⟩ v) g n (fun j => if j = t then v else f j) := fun j hj => by
  refine ⟨?_, by rw [World.frozen?_setCell]; exact (h j hj).2⟩
  by_cases e : j = t
  · subst e
    show _ = some (if j = j then v else f j)
    rw [if_pos rfl]
    exact World.cell?_setCell_same _ _ _ (h j hj).1
  · have hx : (⟨g, t, none⟩ : Addr) ≠ ⟨g, j, none⟩ := fun e2 => e (congrArg Addr.off e2).symm
    show _ = some (if j = t then v else f j)
    rw [if_neg e]
    exact (World.cell?_setCell_other _ _ _ _ hx).trans (h j hj).1
theorem Cl.drewN {w : World} {g n : Nat} {f : Nat → Value} (h : Cl w g n f) (k : Nat) : Cl (w.drewN k) g n f := h
theorem Cl.grown {w w' : World} {row : Option Nat} {g n : Nat} {f : Nat → Value} (h : Cl w g n f) (hg : w.grownBy w' row) (hne : some g ≠ row) : Cl w' g n f := fun j hj => by
  have hb := hg.block g (World.block_lt_of_cell? w ⟨g, j, none⟩ (h j hj).1) hne
  exact ⟨(World.cell?_of_block (a := ⟨g, j, none⟩) hb).trans (h j hj).1, (World.frozen?_of_block (a := ⟨g, j, none⟩) hb).trans (h j hj).2⟩
theorem Cl.of_owns {w : World} {base : Nat} {e : TypeId} {g n cap : Nat} {xs : List Value} (h : w.ownsRow base e 1 (.slice (some ⟨g, 0, none⟩) n cap) n xs) (f : Nat → Value) (hf : ∀ j, j < n → xs[j]? = some (f j)) : Cl w g n f := fun j hj =>
  ⟨(h.cellAt j (by omega)).trans (hf j hj), h.frozenAt j⟩
theorem Cl.congr {w : World} {g n : Nat} {f f' : Nat → Value} (h : Cl w g n f) (hf : ∀ j, j < n → f j = f' j) : Cl w g n f' := fun j hj => by
  rw [← hf j hj]; exact h j hj

/-- What the first loop gathers behind k elements. -/
def sta (P : ByteArray) (k : Nat) : List Value := (List.range k).map fun j => .int .i64 (stp P j : Int)
def stb (P : ByteArray) (k : Nat) : List Value := (List.range k).map fun j => .bool (decide (bt P (stp P j) = 42))
theorem sta_succ (P : ByteArray) (k : Nat) : sta P k ++ [.int .i64 (stp P k : Int)] = sta P (k + 1) := by simp [sta, List.range_succ]
theorem stb_star (P : ByteArray) (k : Nat) (h : bt P (stp P k) = 42) : stb P k ++ [.bool true] = stb P (k + 1) := by simp [stb, List.range_succ, h]
theorem stb_byte (P : ByteArray) (k : Nat) (h : ¬ bt P (stp P k) = 42) : stb P k ++ [.bool false] = stb P (k + 1) := by simp [stb, List.range_succ, h]
theorem sta_get (P : ByteArray) (k j : Nat) (h : j < k) : (sta P k)[j]? = some (.int .i64 (stp P j : Int)) := by simp [sta, h]
theorem stb_get (P : ByteArray) (k j : Nat) (h : j < k) : (stb P k)[j]? = some (.bool (decide (bt P (stp P j) = 42))) := by simp [stb, h]

end Go.Proofs.Qxb6601063a.Pl
