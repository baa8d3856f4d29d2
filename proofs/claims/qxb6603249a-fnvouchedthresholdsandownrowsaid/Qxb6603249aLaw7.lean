/-
  THE LAW's OWN WALK: FnVouchedThresholdsAndOwnRow.
-/
import Derived.Test.Qxb6603249aVouch
namespace Go.Proofs.Qxb6603249a.Wk
open Go.RowKit

/-- What the walk is told of the rows that came in: nil; or no rows; or rows of six cells each behind an address. -/
def Ein (w : World) (a0 : Option Addr) (n cap : Nat) (f : Nat → Ent) : Prop :=
  (a0 = none ∧ n = 0 ∧ cap = 0) ∨ (∃ x, a0 = some x ∧ n = 0) ∨ (∃ g off, a0 = some ⟨g, off, none⟩ ∧ 0 < n ∧ g < w.heap.size ∧ Rows6 w g off n f)
/-- .. and of the copy. -/
def Cpy (w : World) (a : Option Addr) (n : Nat) (f : Nat → Ent) : Prop :=
  (a = none ∧ n = 0) ∨ ∃ G, a = some ⟨G, 0, none⟩ ∧ G < w.heap.size ∧ Rows6 w G 0 n f

theorem bytes_any (x1 x2 x3 x4 x5 q : Int) (N : ByteArray) (a0 : Option Addr) (n cap : Nat) (f : Nat → Ent) (w : World) (h : Ein w a0 n cap f) (hn : n ≤ 9223372036854775807) (hN : N.size ≤ 9223372036854775807) :
    Calls Try.prog 16 #[.int .u64 x1, .int .u64 x2, .int .u64 x3, .int .u64 x4, .int .u64 x5, .string N, .slice a0 n cap, .int .i64 q] w fun e w' => ∃ r : Bool, e = .returned (.bool r) ∧ w = w' := by
  rcases h with ⟨rfl, rfl, rfl⟩ | ⟨x, rfl, rfl⟩ | ⟨g, off, rfl, _, hg, hR⟩
  · exact bytes_none x1 x2 x3 x4 x5 q N none 0 w hN
  · exact bytes_none x1 x2 x3 x4 x5 q N (some x) cap w hN
  · exact bytes_some x1 x2 x3 x4 x5 q N g off n cap f w hR hn hN
theorem fits_any (N : ByteArray) (a0 : Option Addr) (n cap : Nat) (f : Nat → Ent) (w : World) (h : Ein w a0 n cap f) (hn : n ≤ 9223372036854775807) (hN : N.size ≤ 9223372036854775807) :
    Calls Try.prog 12 #[.string N, .slice a0 n cap] w fun e w' => ∃ r : Bool, e = .returned (.bool r) ∧ (r = true → n ≤ 4096) ∧ w = w' := by
  rcases h with ⟨rfl, rfl, rfl⟩ | ⟨x, rfl, rfl⟩ | ⟨g, off, rfl, _, hg, hR⟩
  · exact fits_none N none 0 w hN
  · exact fits_none N (some x) cap w hN
  · exact fits_some N g off n cap f w hR hn hN
theorem copy_any (a0 : Option Addr) (n cap : Nat) (f : Nat → Ent) (w : World) (h : Ein w a0 n cap f) (hn : n ≤ 4096) :
    Calls Try.prog 13 #[.slice a0 n cap] w fun e w' => ∃ a, e = .returned (.slice a n n) ∧ Cpy w' a n f ∧ Below w.heap.size w w' := by
  rcases h with ⟨rfl, rfl, rfl⟩ | ⟨x, rfl, rfl⟩ | ⟨g, off, rfl, h0, hg, hR⟩
  · exact (copy_nil w).mono fun e w' ⟨h1, h2⟩ => ⟨none, h1, Or.inl ⟨rfl, rfl⟩, h2 ▸ Below.refl _ _⟩
  · exact (copy_empty x cap w).mono fun e w' ⟨h1, h2, h3⟩ => ⟨_, h1, Or.inr ⟨_, rfl, h3, fun i hi => absurd hi (by omega)⟩, h2⟩
  · refine (copy_some g off n cap f w hR hg hn).mono fun e w' ⟨h1, h2, h3⟩ => ⟨_, h1, Or.inr ⟨_, rfl, ?_, h2⟩, h3⟩
    exact World.block_lt_of_cell? w' _ (h2 0 h0).1
theorem seen_any (a : Option Addr) (n : Nat) (f : Nat → Ent) (w : World) (h : Cpy w a n f) (hn : n ≤ 4096) (hnm : ∀ i, i < n → (f i).nm.size ≤ maxLen) :
    Calls Try.prog 14 #[.slice a n n] w fun e w' => ∃ m, e = .returned (.map m) ∧ Mp w' m n (a.map fun _ => dF f n) ∧ Below w.heap.size w w' := by
  rcases h with ⟨rfl, rfl⟩ | ⟨G, rfl, hG, hR⟩
  · exact (seen_nil w).mono fun e w' ⟨h1, h2⟩ => ⟨none, h1, Or.inl ⟨rfl, rfl⟩, h2 ▸ Below.refl _ _⟩
  · exact (seen_some G n f w hR hG hn hnm).mono fun e w' ⟨h1, h2, h3⟩ => ⟨_, h1, Or.inr ⟨_, _, rfl, rfl, h2⟩, h3⟩
theorem without_any (S : ByteArray) (a : Option Addr) (n : Nat) (f : Nat → Ent) (w : World) (h : Cpy w a n f) (hn : n ≤ 4096) (hnm : ∀ i, i < n → (f i).nm.size ≤ maxLen) :
    Calls Try.prog 17 #[.slice a n n, .string S] w fun e w' => ∃ m, e = .returned (.map m) ∧ Mp w' m n (a.map fun _ => dW f S n) ∧ Below w.heap.size w w' := by
  rcases h with ⟨rfl, rfl⟩ | ⟨G, rfl, hG, hR⟩
  · exact (without_nil S w).mono fun e w' ⟨h1, h2⟩ => ⟨none, h1, Or.inl ⟨rfl, rfl⟩, h2 ▸ Below.refl _ _⟩
  · exact (without_some S G n f w hR hG hn hnm).mono fun e w' ⟨h1, h2, h3⟩ => ⟨_, h1, Or.inr ⟨_, _, rfl, rfl, h2⟩, h3⟩
theorem vm_same (a b c d : Int) (S : ByteArray) (o : Option Addr) (f : Nat → Ent) (n : Nat) : vm a b c d S (o.map fun _ => dW f S n) = vm a b c d S (o.map fun _ => dF f n) := by
  cases o
  · rfl
  · exact vc_same a b c d f S n
theorem Cpy.below {w w' : World} {a : Option Addr} {n : Nat} {f : Nat → Ent} (h : Cpy w a n f) (hb : Below w.heap.size w w') : Cpy w' a n f := by
  rcases h with h | ⟨G, h1, h2, h3⟩
  · exact Or.inl h
  · exact Or.inr ⟨G, h1, Nat.lt_of_lt_of_le h2 hb.size, fun i hi => rows_below hb h2 h3 hi⟩

/-- The candidate's box. -/
def Bx (w : World) (B : Nat) (a b c d v : Int) : Prop :=
  w.cell? ⟨B, 0, none⟩ = some (.int .u64 a) ∧ w.cell? ⟨B, 1, none⟩ = some (.int .u64 b) ∧ w.cell? ⟨B, 2, none⟩ = some (.int .u64 c) ∧ w.cell? ⟨B, 3, none⟩ = some (.int .u64 d) ∧ w.cell? ⟨B, 4, none⟩ = some (.int .u64 v)
theorem Bx.below {w w' : World} {B : Nat} {a b c d v : Int} (h : Bx w B a b c d v) (hb : Below w.heap.size w w') : Bx w' B a b c d v := by
  have hB : B < w.heap.size := World.block_lt_of_cell? w ⟨B, 0, none⟩ h.1
  have e := fun j => hb.cell (p := ⟨B, j, none⟩) hB
  exact ⟨(e _).trans h.1, (e _).trans h.2.1, (e _).trans h.2.2.1, (e _).trans h.2.2.2.1, (e _).trans h.2.2.2.2⟩
theorem below_trans {w0 w w' : World} (h : Below w0.heap.size w0 w) (hb : Below w.heap.size w w') : Below w0.heap.size w0 w' := h.trans (hb.mono h.size)

theorem box_new (w : World) (o : Obj) (a b c d v : Int) : Bx ((w.alloc o).alloc (.cells #[.int .u64 a, .int .u64 b, .int .u64 c, .int .u64 d, .int .u64 v] 26)) (w.heap.size + 1) a b c d v := by
  refine ⟨?_, ?_, ?_, ?_, ?_⟩
  all_goals go_cell

set_option maxHeartbeats 2000000 in
theorem walk7 (a b c d v q : Int) (N : ByteArray) (a0 : Option Addr) (n cap : Nat) (f : Nat → Ent) (w : World) (h : Ein w a0 n cap f) (hn : n ≤ maxLen) (hN : N.size ≤ maxLen) (hnm : ∀ i, i < n → (f i).nm.size ≤ maxLen) :
    Calls Try.prog 7 #[.int .u64 a, .int .u64 b, .int .u64 c, .int .u64 d, .int .u64 v, .string N, .slice a0 n cap, .int .i64 q] w fun e w' => e = .returned (.bool true) ∧ Below w.heap.size w w' := by
  have HH : Hid (Ein w a0 n cap f) := h
  have HN : Hid (∀ i, i < n → (f i).nm.size ≤ maxLen) := hnm
  unfold maxLen at hn hN
  clear h hnm
  go_enter Try.func7, Try.ntmps7
  go_wp2_with fail
  refine (bytes_any a b c d v q N a0 n cap f w HH.out hn hN).mono ?_
  rintro e w' ⟨r, rfl, rfl⟩
  cases r
  · go_wp2
    go_ret
    exact ⟨rfl, Below.refl _ _⟩
  go_wp2_with fail
  refine (fits_any N a0 n cap f w HH.out hn hN).mono ?_
  rintro e w' ⟨r, rfl, hr, rfl⟩
  cases r
  · go_wp2
    go_ret
    exact ⟨rfl, Below.refl _ _⟩
  have hn2 : n ≤ 4096 := hr rfl
  clear hr hn
  go_wp2_with fail
  refine (copy_any a0 n cap f w HH.out hn2).mono ?_
  rintro e w1 ⟨a1, rfl, hC, hb1⟩
  have HC : Hid (Cpy w1 a1 n f) := hC
  clear hC HH
  go_wp2_with (go_at_call 8; refine (makeEnd_any _ _ _ _ _ _).mono ?_; rintro e w' ⟨rfl, rfl⟩)
  have hX := box_new w1 (.cells #[.int .u64 a, .int .u64 b, .int .u64 c, .int .u64 d, .int .u64 v] 26) a b c d v
  have hb2 : Below w1.heap.size w1 ((w1.alloc (.cells #[.int .u64 a, .int .u64 b, .int .u64 c, .int .u64 d, .int .u64 v] 26)).alloc (.cells #[.int .u64 a, .int .u64 b, .int .u64 c, .int .u64 d, .int .u64 v] 26)) := by go_grown
  have hbw := below_trans hb1 hb2
  have HC2 : Hid (Cpy _ a1 n f) := HC.out.below hb2
  clear hb1 hb2 HC
  generalize (w1.alloc (.cells #[.int .u64 a, .int .u64 b, .int .u64 c, .int .u64 d, .int .u64 v] 26)).alloc (.cells #[.int .u64 a, .int .u64 b, .int .u64 c, .int .u64 d, .int .u64 v] 26) = W at *
  generalize w1.heap.size + 1 = B at *
  refine (seen_any a1 n f W HC2.out hn2 HN.out).mono ?_
  rintro e W1 ⟨m, rfl, hM, hb⟩
  have hX1 := hX.below hb
  have HC1 : Hid (Cpy W1 a1 n f) := HC2.out.below hb
  have HM1 : Hid (Mp W1 m n (a1.map fun _ => dF f n)) := hM
  have hbw1 := below_trans hbw hb
  have hV := vm_le a b c d N hM
  clear hb hM hX HC2 hbw
  obtain ⟨V, HV⟩ : ∃ V, Hid (vm a b c d N (a1.map fun _ => dF f n) = V) := ⟨_, rfl⟩
  rw [HV.out] at hV
  obtain ⟨x0, x1, x2, x3, x4⟩ := hX1
  -- the first question: the quorum as it came
  go_wp2_with fail
  refine (ZZVouched_any a b c d v q N m n _ W1 HM1.out hn2).mono ?_
  rintro e W2 ⟨rfl, hb⟩
  rw [HV.out]
  have hX2 := Bx.below ⟨x0, x1, x2, x3, x4⟩ hb
  have HC2 : Hid (Cpy W2 a1 n f) := HC1.out.below hb
  have HM2 : Hid (Mp W2 m n (a1.map fun _ => dF f n)) := HM1.out.below hb
  have hbw2 := below_trans hbw1 hb
  clear hb x0 x1 x2 x3 x4 HC1 HM1 hbw1
  obtain ⟨x0, x1, x2, x3, x4⟩ := hX2
  -- the second: quorum 1
  go_wp2_with fail
  refine (ZZVouched_any a b c d v 1 N m n _ W2 HM2.out hn2).mono ?_
  rintro e W3 ⟨rfl, hb⟩
  rw [HV.out, decide_eq_true (show (1 : Int) ≤ 1 + (V : Int) by omega)]
  have hX3 := Bx.below ⟨x0, x1, x2, x3, x4⟩ hb
  have HC3 : Hid (Cpy W3 a1 n f) := HC2.out.below hb
  have HM3 : Hid (Mp W3 m n (a1.map fun _ => dF f n)) := HM2.out.below hb
  have hbw3 := below_trans hbw2 hb
  clear hb x0 x1 x2 x3 x4 HC2 HM2 hbw2
  obtain ⟨x0, x1, x2, x3, x4⟩ := hX3
  -- the third: more than all
  go_wp2_with fail
  refine (ZZVouched_any a b c d v _ N m n _ W3 HM3.out hn2).mono ?_
  rintro e W4 ⟨rfl, hb⟩
  rw [HV.out, decide_eq_false (show ¬ (n : Int) + 2 ≤ 1 + (V : Int) by omega)]
  have hX4 := Bx.below ⟨x0, x1, x2, x3, x4⟩ hb
  have HC4 : Hid (Cpy W4 a1 n f) := HC3.out.below hb
  have HM4 : Hid (Mp W4 m n (a1.map fun _ => dF f n)) := HM3.out.below hb
  have hbw4 := below_trans hbw3 hb
  clear hb x0 x1 x2 x3 x4 HC3 HM3 hbw3
  obtain ⟨x0, x1, x2, x3, x4⟩ := hX4
  by_cases hq : q ≤ 1 + (V : Int)
  · have HG : Hid (decide (q ≤ 1 + (V : Int)) = true) := decide_eq_true hq
    have HQ : Hid (q ≤ 1 + (V : Int)) := hq
    rw [HG.out]
    clear hq
    by_cases hl : wrap64 (q - 1) < q
    · have kl : decide (wrap64 (q - 1) < q) = true := decide_eq_true hl
      have HL : Hid (decide (wrap64 (q - 1) ≤ 1 + (V : Int)) = true) := by have := HQ.out; exact decide_eq_true (by omega)
      go_wp2_with fail
      refine (ZZVouched_any a b c d v _ N m n _ W4 HM4.out hn2).mono ?_
      rintro e W5 ⟨rfl, hb⟩
      rw [HV.out, HL.out]
      have hX5 := Bx.below ⟨x0, x1, x2, x3, x4⟩ hb
      have HC5 : Hid (Cpy W5 a1 n f) := HC4.out.below hb
      have HM5 : Hid (Mp W5 m n (a1.map fun _ => dF f n)) := HM4.out.below hb
      have hbw5 := below_trans hbw4 hb
      clear hb x0 x1 x2 x3 x4 HC4 HM4 hbw4
      obtain ⟨x0, x1, x2, x3, x4⟩ := hX5
      go_wp2_with fail
      refine (without_any N a1 n f W5 HC5.out hn2 HN.out).mono ?_
      rintro e Y1 ⟨m2, rfl, hM, hb⟩
      have hX6 := Bx.below ⟨x0, x1, x2, x3, x4⟩ hb
      have HM6 : Hid (Mp Y1 m2 n (a1.map fun _ => dW f N n)) := hM
      have hbw6 := below_trans hbw5 hb
      clear hb hM x0 x1 x2 x3 x4 HC5 HM5 hbw5
      obtain ⟨x0, x1, x2, x3, x4⟩ := hX6
      go_wp2_with fail
      refine (ZZVouched_any a b c d v q N m2 n _ Y1 HM6.out hn2).mono ?_
      rintro e Y2 ⟨rfl, hb⟩
      rw [vm_same, HV.out, HG.out]
      have hbw7 := below_trans hbw6 hb
      clear hb x0 x1 x2 x3 x4 HM6 hbw6
      go_wp2
      go_ret
      exact ⟨rfl, hbw7⟩
    · have kl : decide (wrap64 (q - 1) < q) = false := decide_eq_false hl
      go_wp2_with fail
      refine (without_any N a1 n f W4 HC4.out hn2 HN.out).mono ?_
      rintro e Y1 ⟨m2, rfl, hM, hb⟩
      have hX6 := Bx.below ⟨x0, x1, x2, x3, x4⟩ hb
      have HM6 : Hid (Mp Y1 m2 n (a1.map fun _ => dW f N n)) := hM
      have hbw6 := below_trans hbw4 hb
      clear hb hM x0 x1 x2 x3 x4 HC4 HM4 hbw4
      obtain ⟨x0, x1, x2, x3, x4⟩ := hX6
      go_wp2_with fail
      refine (ZZVouched_any a b c d v q N m2 n _ Y1 HM6.out hn2).mono ?_
      rintro e Y2 ⟨rfl, hb⟩
      rw [vm_same, HV.out, HG.out]
      have hbw7 := below_trans hbw6 hb
      clear hb x0 x1 x2 x3 x4 HM6 hbw6
      go_wp2
      go_ret
      exact ⟨rfl, hbw7⟩
  · have HG : Hid (decide (q ≤ 1 + (V : Int)) = false) := decide_eq_false hq
    rw [HG.out]
    clear hq
    by_cases hl : wrap64 (q - 1) < q
    · have kl : decide (wrap64 (q - 1) < q) = true := decide_eq_true hl
      go_wp2_with fail
      refine (without_any N a1 n f W4 HC4.out hn2 HN.out).mono ?_
      rintro e Y1 ⟨m2, rfl, hM, hb⟩
      have hX6 := Bx.below ⟨x0, x1, x2, x3, x4⟩ hb
      have HM6 : Hid (Mp Y1 m2 n (a1.map fun _ => dW f N n)) := hM
      have hbw6 := below_trans hbw4 hb
      clear hb hM x0 x1 x2 x3 x4 HC4 HM4 hbw4
      obtain ⟨x0, x1, x2, x3, x4⟩ := hX6
      go_wp2_with fail
      refine (ZZVouched_any a b c d v q N m2 n _ Y1 HM6.out hn2).mono ?_
      rintro e Y2 ⟨rfl, hb⟩
      rw [vm_same, HV.out, HG.out]
      have hbw7 := below_trans hbw6 hb
      clear hb x0 x1 x2 x3 x4 HM6 hbw6
      go_wp2
      go_ret
      exact ⟨rfl, hbw7⟩
    · have kl : decide (wrap64 (q - 1) < q) = false := decide_eq_false hl
      go_wp2_with fail
      refine (without_any N a1 n f W4 HC4.out hn2 HN.out).mono ?_
      rintro e Y1 ⟨m2, rfl, hM, hb⟩
      have hX6 := Bx.below ⟨x0, x1, x2, x3, x4⟩ hb
      have HM6 : Hid (Mp Y1 m2 n (a1.map fun _ => dW f N n)) := hM
      have hbw6 := below_trans hbw4 hb
      clear hb hM x0 x1 x2 x3 x4 HC4 HM4 hbw4
      obtain ⟨x0, x1, x2, x3, x4⟩ := hX6
      go_wp2_with fail
      refine (ZZVouched_any a b c d v q N m2 n _ Y1 HM6.out hn2).mono ?_
      rintro e Y2 ⟨rfl, hb⟩
      rw [vm_same, HV.out, HG.out]
      have hbw7 := below_trans hbw6 hb
      clear hb x0 x1 x2 x3 x4 HM6 hbw6
      go_wp2
      go_ret
      exact ⟨rfl, hbw7⟩

end Go.Proofs.Qxb6603249a.Wk
