/-
  WHAT A GLOB MEANS, AND WHAT MATCHING IT BY BACKTRACKING COMES TO: plain mathematics, no Go in sight.
  'GM P N p n': the pattern P from place p on matches the name N from place n on.
-/
import Derived.Test.Qxb6601063aPlain
namespace Go.Proofs.Qxb6601063a.Pl
open Go.PlainAid

/-- The width of the element at p (no star). -/
def wid (P : ByteArray) (p : Nat) : Nat := (mbW (P.extract p P.size)).toNat
/-- Does the element at p take the byte b? -/
def oks (P : ByteArray) (p : Nat) (b : Int) : Bool := mbO (P.extract p P.size) b

theorem wid_range (P : ByteArray) (p : Nat) (h : p < P.size) : 1 ≤ wid P p ∧ p + wid P p ≤ P.size := by
  have hz : (P.extract p P.size).size = P.size - p := by rw [size_cut]; omega
  have := mbW_range (P.extract p P.size) (by omega)
  unfold wid
  omega
theorem wid_int (P : ByteArray) (p : Nat) (h : p < P.size) : mbW (P.extract p P.size) = (wid P p : Int) := by
  have hz : (P.extract p P.size).size = P.size - p := by rw [size_cut]; omega
  have := mbW_range (P.extract p P.size) (by omega)
  unfold wid
  omega

def GF (P N : ByteArray) : Nat → Nat → Nat → Prop
  | 0, _, n => n = N.size
  | f + 1, p, n =>
    if p < P.size then
      (if bt P p = 42 then ∃ m, n ≤ m ∧ m ≤ N.size ∧ GF P N f (p + 1) m
       else n < N.size ∧ oks P p (bt N n) = true ∧ GF P N f (p + wid P p) (n + 1))
    else n = N.size
def GM (P N : ByteArray) (p n : Nat) : Prop := GF P N (P.size - p) p n

theorem GF_fuel (P N : ByteArray) : ∀ (f g p n : Nat), P.size - p ≤ f → P.size - p ≤ g → (GF P N f p n ↔ GF P N g p n)
  | 0, 0, _, _, _, _ => Iff.rfl
  | 0, g + 1, p, n, hf, _ => by
    have h : ¬ p < P.size := by omega
    simp [GF, h]
  | f + 1, 0, p, n, _, hg => by
    have h : ¬ p < P.size := by omega
    simp [GF, h]
  | f + 1, g + 1, p, n, hf, hg => by
    by_cases h : p < P.size
    · have hw := wid_range P p h
      have h1 : ∀ m, GF P N f (p + 1) m ↔ GF P N g (p + 1) m := fun m => GF_fuel P N f g (p + 1) m (by omega) (by omega)
      have h2 := GF_fuel P N f g (p + wid P p) (n + 1) (by omega) (by omega)
      simp only [GF, h1, h2]
    · simp [GF, h]

theorem GM_end (P N : ByteArray) (p n : Nat) (h : P.size ≤ p) : GM P N p n ↔ n = N.size := by
  unfold GM
  have e : P.size - p = 0 := by omega
  rw [e]; exact Iff.rfl
theorem GM_star (P N : ByteArray) (p n : Nat) (h : p < P.size) (hs : bt P p = 42) : GM P N p n ↔ ∃ m, n ≤ m ∧ m ≤ N.size ∧ GM P N (p + 1) m := by
  unfold GM
  obtain ⟨f, hf⟩ : ∃ f, P.size - p = f + 1 := ⟨P.size - p - 1, by omega⟩
  have e : P.size - (p + 1) = f := by omega
  rw [hf, e]
  simp only [GF, if_pos h, if_pos hs]
theorem GM_byte (P N : ByteArray) (p n : Nat) (h : p < P.size) (hs : ¬ bt P p = 42) : GM P N p n ↔ n < N.size ∧ oks P p (bt N n) = true ∧ GM P N (p + wid P p) (n + 1) := by
  have hw := wid_range P p h
  unfold GM
  obtain ⟨f, hf⟩ : ∃ f, P.size - p = f + 1 := ⟨P.size - p - 1, by omega⟩
  rw [hf, GF_fuel P N (P.size - (p + wid P p)) f _ _ (by omega) (by omega)]
  simp only [GF, if_pos h, if_neg hs]

theorem GF_le (P N : ByteArray) : ∀ (f p n : Nat), GF P N f p n → n ≤ N.size
  | 0, _, n, h => by have h : n = N.size := h; omega
  | f + 1, p, n, h => by
    unfold GF at h
    by_cases a : p < P.size
    · rw [if_pos a] at h
      by_cases b : bt P p = 42
      · rw [if_pos b] at h
        obtain ⟨m, h1, h2, _⟩ := h
        omega
      · rw [if_neg b] at h
        omega
    · rw [if_neg a] at h
      omega
theorem GM_le (P N : ByteArray) (p n : Nat) (h : GM P N p n) : n ≤ N.size := GF_le P N _ p n h

/-! ### The loop's invariant. 'st': 0 where no star was met, else the place behind the last star, plus one. 'se': the end of the run that it stands for so far. -/
def Inv (P N : ByteArray) (p n st se : Nat) : Prop :=
  p ≤ P.size ∧ n ≤ N.size ∧ se ≤ n ∧ st ≤ p + 1 ∧
  (st = 0 → (GM P N 0 0 ↔ GM P N p n)) ∧
  (0 < st → (GM P N 0 0 ↔ ∃ m, se ≤ m ∧ m ≤ N.size ∧ GM P N (st - 1) m) ∧ (∀ m, GM P N (st - 1) m → GM P N p (m + (n - se))) ∧ (GM P N p n → GM P N (st - 1) se))

theorem inv_start (P N : ByteArray) : Inv P N 0 0 0 0 :=
  ⟨by omega, by omega, by omega, by omega, fun _ => Iff.rfl, fun h => absurd h (by omega)⟩

/-- A star is met. -/
theorem inv_star (P N : ByteArray) (p n st se : Nat) (h : Inv P N p n st se) (hp : p < P.size) (hs : bt P p = 42) : Inv P N (p + 1) n (p + 2) n := by
  obtain ⟨h1, h2, h3, h4, h5, h6⟩ := h
  refine ⟨by omega, h2, by omega, by omega, fun e => absurd e (by omega), fun _ => ⟨?_, ?_, ?_⟩⟩
  · show GM P N 0 0 ↔ ∃ m, n ≤ m ∧ m ≤ N.size ∧ GM P N (p + 1) m
    rw [← GM_star P N p n hp hs]
    by_cases e : st = 0
    · exact h5 e
    · obtain ⟨q1, q2, q3⟩ := h6 (by omega)
      rw [q1]
      constructor
      · rintro ⟨m, m1, _, m3⟩
        obtain ⟨k, k1, k2, k3⟩ := (GM_star P N p _ hp hs).1 (q2 m m3)
        exact (GM_star P N p n hp hs).2 ⟨k, by omega, k2, k3⟩
      · intro g
        exact ⟨se, by omega, by omega, q3 g⟩
  · intro m g
    have e : m + (n - n) = m := by omega
    rw [e]; exact g
  · exact fun g => g

/-- An element takes a byte. -/
theorem inv_byte (P N : ByteArray) (p n st se : Nat) (h : Inv P N p n st se) (hp : p < P.size) (hn : n < N.size) (hs : ¬ bt P p = 42) (ho : oks P p (bt N n) = true) : Inv P N (p + wid P p) (n + 1) st se := by
  obtain ⟨h1, h2, h3, h4, h5, h6⟩ := h
  have hw := wid_range P p hp
  have hb := GM_byte P N p n hp hs
  refine ⟨by omega, by omega, by omega, by omega, fun e => ?_, fun e => ?_⟩
  · rw [h5 e, hb]
    exact ⟨fun g => g.2.2, fun g => ⟨hn, ho, g⟩⟩
  · obtain ⟨q1, q2, q3⟩ := h6 e
    refine ⟨q1, fun m g => ?_, fun g => q3 (hb.2 ⟨hn, ho, g⟩)⟩
    have := ((GM_byte P N p _ hp hs).1 (q2 m g)).2.2
    have e : m + (n - se) + 1 = m + (n + 1 - se) := by omega
    rw [← e]; exact this

/-- No element takes the byte: no match from here. -/
theorem no_match (P N : ByteArray) (p n : Nat) (hn : n < N.size) (h : P.size ≤ p ∨ (p < P.size ∧ ¬ bt P p = 42 ∧ oks P p (bt N n) = false)) : ¬ GM P N p n := by
  rcases h with h | ⟨h, hs, ho⟩
  · rw [GM_end P N p n h]; omega
  · rw [GM_byte P N p n h hs]
    rintro ⟨_, g, _⟩
    rw [ho] at g
    exact absurd g (by simp)

/-- No star was met: there is no match at all. -/
theorem inv_fail (P N : ByteArray) (p n se : Nat) (h : Inv P N p n 0 se) (hn : ¬ GM P N p n) : ¬ GM P N 0 0 := by
  rw [h.2.2.2.2.1 rfl]; exact hn

/-- The star takes one byte more. -/
theorem inv_again (P N : ByteArray) (p n st se : Nat) (h : Inv P N p n st se) (hst : 0 < st) (hlt : n < N.size) (hn : ¬ GM P N p n) : Inv P N (st - 1) (se + 1) st (se + 1) := by
  obtain ⟨h1, h2, h3, h4, h5, h6⟩ := h
  obtain ⟨q1, q2, q3⟩ := h6 hst
  refine ⟨by omega, by omega, by omega, by omega, fun e => absurd e (by omega), fun _ => ⟨?_, ?_, fun g => g⟩⟩
  · rw [q1]
    constructor
    · rintro ⟨m, m1, m2, m3⟩
      by_cases e : m = se
      · subst e
        have e2 : m + (n - m) = n := by omega
        have g := q2 m m3
        rw [e2] at g
        exact absurd g hn
      · exact ⟨m, by omega, m2, m3⟩
    · rintro ⟨m, m1, m2, m3⟩
      exact ⟨m, by omega, m2, m3⟩
  · intro m g
    have e : m + (se + 1 - (se + 1)) = m := by omega
    rw [e]; exact g

/-- The name is spent. -/
theorem inv_out (P N : ByteArray) (p n st se : Nat) (h : Inv P N p n st se) (hn : n = N.size) : GM P N 0 0 ↔ GM P N p N.size := by
  subst hn
  obtain ⟨h1, h2, h3, h4, h5, h6⟩ := h
  by_cases e : st = 0
  · exact h5 e
  · obtain ⟨q1, q2, q3⟩ := h6 (by omega)
    rw [q1]
    constructor
    · rintro ⟨m, m1, m2, m3⟩
      have g := q2 m m3
      have hl := GM_le P N _ _ g
      have e2 : m + (N.size - se) = N.size := by omega
      rw [e2] at g
      exact g
    · intro g
      exact ⟨se, by omega, by omega, q3 g⟩

theorem tail_star (P N : ByteArray) (p : Nat) (h : p < P.size) (hs : bt P p = 42) : GM P N p N.size ↔ GM P N (p + 1) N.size := by
  rw [GM_star P N p _ h hs]
  constructor
  · rintro ⟨m, m1, m2, m3⟩
    have e : m = N.size := by omega
    rw [e] at m3; exact m3
  · intro g
    exact ⟨N.size, by omega, by omega, g⟩
theorem tail_no (P N : ByteArray) (p : Nat) (h : p < P.size) (hs : ¬ bt P p = 42) : ¬ GM P N p N.size := by
  rw [GM_byte P N p _ h hs]; omega
theorem tail_end (P N : ByteArray) (p : Nat) (h : P.size ≤ p) : GM P N p N.size := (GM_end P N p _ h).2 rfl

/-! ### The loop's measure: the last star's place, then the run's end, then the name's place. -/
def msr (A L st se n : Nat) : Nat := ((A - st) * (L + 1) + (L - se)) * (L + 1) + (L - n)
theorem msr_le (a b L x y : Nat) (h : a < b) (hx : x ≤ L) : a * (L + 1) + x < b * (L + 1) + y := by
  have : (a + 1) * (L + 1) ≤ b * (L + 1) := Nat.mul_le_mul_right _ h
  rw [Nat.add_mul] at this
  omega
theorem msr_star (A L st se n st' n' : Nat) (h : st < st') (h2 : st' ≤ A) : msr A L st' n' n' < msr A L st se n := by
  unfold msr
  exact msr_le _ _ _ _ _ (msr_le _ _ _ _ _ (by omega) (by omega)) (by omega)
theorem msr_again (A L st se n n' : Nat) (h : se < L) : msr A L st (se + 1) n' < msr A L st se n := by
  unfold msr
  exact msr_le _ _ _ _ _ (by omega) (by omega)
theorem msr_byte (A L st se n : Nat) (h : n < L) : msr A L st se (n + 1) < msr A L st se n := by
  unfold msr; omega

end Go.Proofs.Qxb6601063a.Pl
