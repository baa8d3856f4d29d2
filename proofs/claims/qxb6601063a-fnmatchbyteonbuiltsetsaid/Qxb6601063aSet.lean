/-
  PLAIN: a set that is written byte by byte, each escaped: its width, and what it holds.
-/
import Derived.Test.Qxb6601063aEsc
namespace Go.Proofs.Qxb6601063a.Pl
open Go.PlainAid

/-- Is b among the first k bytes of s? -/
def hasTo (s : ByteArray) (b : Int) : Nat → Bool
  | 0 => false
  | k + 1 => hasTo s b k || (bt s k == b)
theorem hasTo_hit (s : ByteArray) (b : Int) (i : Nat) (h : bt s i = b) : ∀ k, i < k → hasTo s b k = true
  | 0, hk => absurd hk (by omega)
  | k + 1, hk => by
    unfold hasTo
    by_cases e : i = k
    · subst e; simp [h]
    · rw [hasTo_hit s b i h k (by omega)]; rfl

/-- The bytes that stand ahead of the set's items. -/
def hd (neg : Bool) : List UInt8 := if neg then [91, 94] else [91]
theorem hd_t : hd true = [91, 94] := rfl
theorem hd_f : hd false = [91] := rfl
/-- The first k bytes of t. -/
def tlL (t : ByteArray) : Nat → List UInt8
  | 0 => []
  | k + 1 => tlL t k ++ [byt t k]
theorem tlL_length (t : ByteArray) : ∀ k, (tlL t k).length = k
  | 0 => rfl
  | k + 1 => by simp [tlL, tlL_length t k]

/-- The whole pattern. -/
def setL (s t : ByteArray) (neg : Bool) : List UInt8 := hd neg ++ escL s s.size ++ [93] ++ tlL t t.size
def setS (s t : ByteArray) (neg : Bool) : ByteArray := str (setL s t neg)
/-- How many bytes stand ahead of the items. -/
def hn (neg : Bool) : Nat := if neg then 2 else 1
theorem hd_length (neg : Bool) : (hd neg).length = hn neg := by cases neg <;> rfl
theorem setS_size (s t : ByteArray) (neg : Bool) : (setS s t neg).size = hn neg + 2 * s.size + 1 + t.size := by
  rw [setS, size_str, setL]
  simp [hd_length, escL_length, tlL_length]
  omega
theorem getD_at {l a b : List UInt8} (h : l = a ++ b) (i k : Nat) (hk : k = a.length + i) : l.getD k 0 = b.getD i 0 := by
  subst h hk
  rw [List.getD_eq_getElem?_getD, List.getD_eq_getElem?_getD, List.getElem?_append_right (by omega)]
  congr 2
  omega
theorem getD_in (a b : List UInt8) (i : Nat) (h : i < a.length) : (a ++ b).getD i 0 = a.getD i 0 := by
  rw [List.getD_eq_getElem?_getD, List.getD_eq_getElem?_getD, List.getElem?_append_left h]

theorem setS_zero (s t : ByteArray) (neg : Bool) : bt (setS s t neg) 0 = 91 := by
  rw [setS, bt_str, setL]
  cases neg <;> simp [hd]
theorem setS_caret (s t : ByteArray) : bt (setS s t true) 1 = 94 := by
  rw [setS, bt_str, setL]
  simp [hd]
theorem setL_split (s t : ByteArray) (neg : Bool) : setL s t neg = hd neg ++ (escL s s.size ++ ([93] ++ tlL t t.size)) := by simp [setL]
theorem setS_even (s t : ByteArray) (neg : Bool) (i : Nat) (h : i < s.size) : bt (setS s t neg) (hn neg + 2 * i) = 92 := by
  rw [setS, bt_str, getD_at (setL_split s t neg) (2 * i) _ (by rw [hd_length]), getD_in _ _ _ (by rw [escL_length]; omega), (escL_get s s.size i h).1]; rfl
theorem setS_odd (s t : ByteArray) (neg : Bool) (i : Nat) (h : i < s.size) : bt (setS s t neg) (hn neg + 2 * i + 1) = bt s i := by
  rw [setS, bt_str, getD_at (setL_split s t neg) (2 * i + 1) _ (by rw [hd_length]; omega), getD_in _ _ _ (by rw [escL_length]; omega), (escL_get s s.size i h).2, bt_byt]
theorem setS_end (s t : ByteArray) (neg : Bool) : bt (setS s t neg) (hn neg + 2 * s.size) = 93 := by
  rw [setS, bt_str, getD_at (setL_split s t neg) (2 * s.size) _ (by rw [hd_length]), getD_at rfl 0 (2 * s.size) (by rw [escL_length]; omega)]
  rfl

/-! ### Where the set ends -/
theorem set_walk (s t : ByteArray) (neg : Bool) : ∀ (d i : Nat), i + d = s.size → seI (setS s t neg) (hn neg + 2 * i) = ((hn neg + 2 * s.size : Nat) : Int)
  | 0, i, h => by
    have e : i = s.size := by omega
    subst e
    rw [seI_step _ _ (by rw [setS_size]; omega), setS_end, if_neg (by decide), if_pos rfl]
  | d + 1, i, h => by
    rw [seI_step _ _ (by rw [setS_size]; omega), setS_even s t neg i (by omega), if_pos rfl]
    have e : hn neg + 2 * i + 2 = hn neg + 2 * (i + 1) := by omega
    rw [e]
    exact set_walk s t neg d (i + 1) (by omega)
theorem set_end (s t : ByteArray) (neg : Bool) : seI (setS s t neg) 1 = ((hn neg + 2 * s.size : Nat) : Int) := by
  have h := set_walk s t neg s.size 0 (by omega)
  cases neg
  · exact h
  · have hz := setS_size s t true
    have e : hn true = 2 := rfl
    rw [seI_step _ _ (by rw [hz]; omega), setS_caret, if_neg (by decide), if_neg (by decide)]
    exact h
theorem set_wid (s t : ByteArray) (neg : Bool) : mbW (setS s t neg) = 2 + 2 * (s.size : Int) + (if neg then 1 else 0) := by
  unfold mbW
  rw [setS_zero, set_end, if_neg (by decide), if_neg (by decide), if_pos rfl, if_pos (by cases neg <;> simp [hn] <;> omega)]
  cases neg <;> simp [hn] <;> omega

/-! ### What the set holds -/
theorem btw_self (x b : Int) : btw x x b = (x == b) := by
  unfold btw
  rw [if_neg (by omega), Bool.eq_iff_iff]
  simp
  omega
theorem items (B s : ByteArray) (b : Int) (hz : B.size = 2 * s.size) (h0 : ∀ i, i < s.size → bt B (2 * i) = 92) (h1 : ∀ i, i < s.size → bt B (2 * i + 1) = bt s i) :
    ∀ (d i : Nat), i + d = s.size → (hasTo s b i || itI B b (2 * i)) = hasTo s b s.size
  | 0, i, h => by
    have e : i = s.size := by omega
    subst e
    rw [itI_end _ _ _ (by omega)]; simp
  | d + 1, i, h => by
    have ih := items B s b hz h0 h1 d (i + 1) (by omega)
    have e1 : esc B (2 * i) = 2 * i + 1 := by unfold esc; rw [if_pos ⟨h0 i (by omega), by omega⟩]
    have e2 : hiAt B (2 * i + 1) = 2 * i + 1 := by
      unfold hiAt
      rw [if_neg]
      rintro ⟨g1, g2⟩
      have := h0 (i + 1) (by omega)
      have e : 2 * (i + 1) = 2 * i + 1 + 1 := by omega
      rw [e, g2] at this
      exact absurd this (by decide)
    have e3 : nxt B (2 * i) = 2 * (i + 1) := by unfold nxt; rw [e1, e2]; omega
    have e4 : hit B (2 * i) b = (bt s i == b) := by unfold hit; rw [e1, e2, h1 i (by omega), btw_self]
    have e5 : hasTo s b (i + 1) = (hasTo s b i || (bt s i == b)) := rfl
    rw [itI_step _ _ _ (by omega), e3, e4, ← ih, e5, Bool.or_assoc]
theorem items_all (B s : ByteArray) (b : Int) (hz : B.size = 2 * s.size) (h0 : ∀ i, i < s.size → bt B (2 * i) = 92) (h1 : ∀ i, i < s.size → bt B (2 * i + 1) = bt s i) :
    itI B b 0 = hasTo s b s.size := by
  have := items B s b hz h0 h1 s.size 0 (by omega)
  simpa [hasTo] using this

theorem set_in (s t : ByteArray) (neg : Bool) (b : Int) : inS ((setS s t neg).extract 1 (hn neg + 2 * s.size)) b = (hasTo s b s.size != neg) := by
  have hz := setS_size s t neg
  have hx : ((setS s t neg).extract 1 (hn neg + 2 * s.size)).size = hn neg - 1 + 2 * s.size := by rw [size_cut, hz]; cases neg <;> simp [hn] <;> omega
  have hb : ∀ i, i < hn neg - 1 + 2 * s.size → bt ((setS s t neg).extract 1 (hn neg + 2 * s.size)) i = bt (setS s t neg) (1 + i) := fun i hi => bt_cut _ _ _ _ (by rw [size_cut] at hx; omega)
  generalize (setS s t neg).extract 1 (hn neg + 2 * s.size) = X at *
  cases neg
  · have en : hn false = 1 := rfl
    rw [en] at hx hb
    have hng : ngB X = false := by
      unfold ngB
      refine decide_eq_false ?_
      rintro ⟨g1, g2⟩
      rw [hb 0 (by omega)] at g2
      have := setS_even s t false 0 (by omega)
      rw [en] at this
      simp only [Nat.mul_zero] at this
      rw [this] at g2
      exact absurd g2 (by decide)
    have hbody : body X = X := by unfold body; rw [hng]; simp
    unfold inS
    rw [hbody, hng, items_all X s b (by omega) (fun i hi => ?_) (fun i hi => ?_)]
    · rw [hb _ (by omega)]; exact setS_even s t false i hi
    · rw [hb _ (by omega)]
      have := setS_odd s t false i hi
      rw [en] at this
      have e : 1 + (2 * i + 1) = 1 + 2 * i + 1 := by omega
      rw [e]; exact this
  · have en : hn true = 2 := rfl
    rw [en] at hx hb
    have hng : ngB X = true := by
      unfold ngB
      refine decide_eq_true ⟨by omega, ?_⟩
      rw [hb 0 (by omega)]
      exact setS_caret s t
    have hbody : body X = X.extract 1 X.size := by unfold body; rw [hng]; simp
    have hy : ∀ i, i < 2 * s.size → bt (X.extract 1 X.size) i = bt (setS s t true) (2 + i) := fun i hi => by
      rw [bt_cut _ _ _ _ (by omega), hb _ (by omega)]
      congr 1
      omega
    unfold inS
    rw [hbody, hng, items_all (X.extract 1 X.size) s b (by rw [size_cut]; omega) (fun i hi => ?_) (fun i hi => ?_)]
    · rw [hy _ (by omega)]; exact setS_even s t true i hi
    · rw [hy _ (by omega)]
      have := setS_odd s t true i hi
      rw [en] at this
      have e : 2 + (2 * i + 1) = 2 + 2 * i + 1 := by omega
      rw [e]; exact this

theorem set_oks (s t : ByteArray) (neg : Bool) (b : Int) : mbO (setS s t neg) b = (hasTo s b s.size != neg) := by
  unfold mbO
  rw [setS_zero, set_end, if_neg (by decide), if_neg (by decide), if_pos rfl, if_pos (by cases neg <;> simp [hn] <;> omega), Int.toNat_natCast, set_in]

end Go.Proofs.Qxb6601063a.Pl
