/-
  THE PLAIN FUNCTIONS of package watcher's glob, over a string's bytes as numbers ('bt s k'). No Go in sight.
-/
import Derived.PlainAid
import Derived.Lib.Strings
import Derived.Lib.IndexBytes
namespace Go.Proofs.Qxb6601063a.Pl
open Go.PlainAid

/-! ### Bytes of a string, and of a cut of it -/
theorem bt_list (s : ByteArray) (k : Nat) : bt s k = ((s.data.toList.getD k 0).toNat : Int) := by
  by_cases h : k < s.size
  · rw [← get_bt s k h, List.getD_eq_getElem?_getD, Lib.data_getElem? s k h]; rfl
  · rw [bt_end s (by omega), List.getD_eq_getElem?_getD, List.getElem?_eq_none (by rw [← Lib.size_eq]; omega)]; rfl
theorem size_cut (s : ByteArray) (a b : Nat) : (s.extract a b).size = min b s.size - a := by simp [ByteArray.size_extract]
theorem bt_cut (s : ByteArray) (a b i : Nat) (h : i < min b s.size - a) : bt (s.extract a b) i = bt s (a + i) := by
  rw [bt_list, bt_list, Lib.extract_data, List.getD_eq_getElem?_getD, List.getD_eq_getElem?_getD, List.getElem?_take_of_lt (by omega), List.getElem?_drop]

/-! ### setEnd -/
/-- setEnd's loop from index i, with fuel. -/
def seF (s : ByteArray) : Nat → Nat → Int
  | 0, _ => -1
  | f + 1, i => if i < s.size then (if bt s i = 92 then seF s f (i + 2) else if bt s i = 93 then (i : Int) else seF s f (i + 1)) else -1
def seI (s : ByteArray) (i : Nat) : Int := seF s (s.size - i) i

theorem seF_fuel (s : ByteArray) : ∀ (f g i : Nat), s.size - i ≤ f → s.size - i ≤ g → seF s f i = seF s g i
  | 0, 0, _, _, _ => rfl
  | 0, g + 1, i, hf, _ => by
    have h : ¬ i < s.size := by omega
    simp [seF, h]
  | f + 1, 0, i, _, hg => by
    have h : ¬ i < s.size := by omega
    simp [seF, h]
  | f + 1, g + 1, i, hf, hg => by
    have h1 := seF_fuel s f g (i + 1) (by omega) (by omega)
    have h2 := seF_fuel s f g (i + 2) (by omega) (by omega)
    simp only [seF, h1, h2]

theorem seI_end (s : ByteArray) (i : Nat) (h : s.size ≤ i) : seI s i = -1 := by
  unfold seI
  have e : s.size - i = 0 := by omega
  rw [e]; rfl

theorem seI_step (s : ByteArray) (i : Nat) (h : i < s.size) :
    seI s i = if bt s i = 92 then seI s (i + 2) else if bt s i = 93 then (i : Int) else seI s (i + 1) := by
  unfold seI
  obtain ⟨f, hf⟩ : ∃ f, s.size - i = f + 1 := ⟨s.size - i - 1, by omega⟩
  rw [hf, seF_fuel s (s.size - (i + 2)) f (i + 2) (by omega) (by omega), seF_fuel s (s.size - (i + 1)) f (i + 1) (by omega) (by omega)]
  simp [seF, h]

theorem seF_range (s : ByteArray) : ∀ (f i : Nat), seF s f i = -1 ∨ ((i : Int) ≤ seF s f i ∧ seF s f i < s.size)
  | 0, _ => Or.inl rfl
  | f + 1, i => by
    have h1 := seF_range s f (i + 1)
    have h2 := seF_range s f (i + 2)
    unfold seF
    by_cases h : i < s.size
    · rw [if_pos h]
      by_cases a : bt s i = 92
      · rw [if_pos a]; omega
      · rw [if_neg a]
        by_cases b : bt s i = 93
        · rw [if_pos b]; omega
        · rw [if_neg b]; omega
    · rw [if_neg h]; omega

theorem seI_range (s : ByteArray) (i : Nat) : seI s i = -1 ∨ ((i : Int) ≤ seI s i ∧ seI s i < s.size) := seF_range s _ i

/-! ### inSet -/
/-- Where the byte that is meant at i lies: behind a backslash, if something follows it. -/
def esc (s : ByteArray) (i : Nat) : Nat := if bt s i = 92 ∧ i + 1 < s.size then i + 1 else i
/-- Where the upper byte of the item whose lower byte lies at j. -/
def hiAt (s : ByteArray) (j : Nat) : Nat := if j + 2 < s.size ∧ bt s (j + 1) = 45 then esc s (j + 2) else j
/-- Does b lie between the two bytes, in whichever order? -/
def btw (x y b : Int) : Bool := if y < x then decide (y ≤ b ∧ b ≤ x) else decide (x ≤ b ∧ b ≤ y)
theorem btw_t (x y b : Int) (h : (y < x ∧ y ≤ b ∧ b ≤ x) ∨ (x ≤ y ∧ x ≤ b ∧ b ≤ y)) : btw x y b = true := by
  unfold btw
  split
  · exact decide_eq_true (by omega)
  · exact decide_eq_true (by omega)
theorem btw_f (x y b : Int) (h : (y < x ∧ (b < y ∨ x < b)) ∨ (x ≤ y ∧ (b < x ∨ y < b))) : btw x y b = false := by
  unfold btw
  split
  · exact decide_eq_false (by omega)
  · exact decide_eq_false (by omega)
def hit (s : ByteArray) (i : Nat) (b : Int) : Bool := btw (bt s (esc s i)) (bt s (hiAt s (esc s i))) b
def nxt (s : ByteArray) (i : Nat) : Nat := hiAt s (esc s i) + 1

theorem esc_ge (s : ByteArray) (i : Nat) : i ≤ esc s i := by unfold esc; split <;> omega
theorem esc_le (s : ByteArray) (i : Nat) : esc s i ≤ i + 1 := by unfold esc; split <;> omega
theorem esc_lt (s : ByteArray) (i : Nat) (h : i < s.size) : esc s i < s.size := by unfold esc; split <;> omega
theorem hiAt_ge (s : ByteArray) (j : Nat) : j ≤ hiAt s j := by
  unfold hiAt; split
  · have := esc_ge s (j + 2); omega
  · omega
theorem hiAt_lt (s : ByteArray) (j : Nat) (h : j < s.size) : hiAt s j < s.size := by
  unfold hiAt; split
  · exact esc_lt s (j + 2) (by omega)
  · exact h
theorem nxt_gt (s : ByteArray) (i : Nat) : i < nxt s i := by
  unfold nxt; have := esc_ge s i; have := hiAt_ge s (esc s i); omega
theorem nxt_le (s : ByteArray) (i : Nat) (h : i < s.size) : nxt s i ≤ s.size := by
  unfold nxt; have := hiAt_lt s (esc s i) (esc_lt s i h); omega

/-- Does an item from index i on hold b? -/
def itF (s : ByteArray) (b : Int) : Nat → Nat → Bool
  | 0, _ => false
  | f + 1, i => if i < s.size then (hit s i b || itF s b f (nxt s i)) else false
def itI (s : ByteArray) (b : Int) (i : Nat) : Bool := itF s b (s.size - i) i

theorem itF_fuel (s : ByteArray) (b : Int) : ∀ (f g i : Nat), s.size - i ≤ f → s.size - i ≤ g → itF s b f i = itF s b g i
  | 0, 0, _, _, _ => rfl
  | 0, g + 1, i, hf, _ => by
    have h : ¬ i < s.size := by omega
    simp [itF, h]
  | f + 1, 0, i, _, hg => by
    have h : ¬ i < s.size := by omega
    simp [itF, h]
  | f + 1, g + 1, i, hf, hg => by
    have hn := nxt_gt s i
    have h1 := itF_fuel s b f g (nxt s i) (by omega) (by omega)
    simp only [itF, h1]

theorem itI_end (s : ByteArray) (b : Int) (i : Nat) (h : s.size ≤ i) : itI s b i = false := by
  unfold itI
  have e : s.size - i = 0 := by omega
  rw [e]; rfl

theorem itI_step (s : ByteArray) (b : Int) (i : Nat) (h : i < s.size) : itI s b i = (hit s i b || itI s b (nxt s i)) := by
  unfold itI
  have hn := nxt_gt s i
  obtain ⟨f, hf⟩ : ∃ f, s.size - i = f + 1 := ⟨s.size - i - 1, by omega⟩
  rw [hf, itF_fuel s b (s.size - nxt s i) f (nxt s i) (by omega) (by omega)]
  simp [itF, h]

/-- Does the set begin with a caret? -/
def ngB (s : ByteArray) : Bool := decide (0 < s.size ∧ bt s 0 = 94)
/-- What is left of the set behind the caret. -/
def body (s : ByteArray) : ByteArray := if ngB s = true then s.extract 1 s.size else s
def inS (s : ByteArray) (b : Int) : Bool := itI (body s) b 0 != ngB s

theorem caret_eq (s : ByteArray) (h : 1 ≤ s.size) : ((s.extract 0 1).toList == [94]) = ngB s := by
  have hl : s.data.toList.length = s.size := (Lib.size_eq s).symm
  unfold ngB
  rw [Lib.extract_toList, bt_list]
  match hs : s.data.toList with
  | [] => rw [hs] at hl; simp at hl; omega
  | c :: r =>
    rw [Bool.eq_iff_iff]
    simp
    constructor
    · rintro rfl; exact ⟨by omega, rfl⟩
    · rintro ⟨_, hc⟩; exact UInt8.toNat_inj.1 (by simpa using (by omega : c.toNat = 94))
theorem body_size (s : ByteArray) : (body s).size ≤ s.size := by
  unfold body; split
  · rw [size_cut]; omega
  · omega

/-! ### matchByte -/
def mbW (s : ByteArray) : Int :=
  if bt s 0 = 63 then 1 else if bt s 0 = 92 then (if 1 < s.size then 2 else 1) else if bt s 0 = 91 then (if 0 < seI s 1 then seI s 1 + 1 else 1) else 1
def mbO (s : ByteArray) (b : Int) : Bool :=
  if bt s 0 = 63 then true else if bt s 0 = 92 then (if 1 < s.size then bt s 1 == b else bt s 0 == b)
  else if bt s 0 = 91 then (if 0 < seI s 1 then inS (s.extract 1 (seI s 1).toNat) b else bt s 0 == b) else bt s 0 == b

theorem mbW_range (s : ByteArray) (h : 0 < s.size) : 1 ≤ mbW s ∧ mbW s ≤ s.size := by
  have hr := seI_range s 1
  unfold mbW
  repeat' split
  all_goals omega

end Go.Proofs.Qxb6601063a.Pl
