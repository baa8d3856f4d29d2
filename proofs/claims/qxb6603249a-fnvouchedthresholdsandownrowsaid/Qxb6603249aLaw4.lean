/-
  THE LAW's OWN WALK: FnBeforeGrowingLogIsLater.
-/
import Derived.Test.Qxb6603249aWalks
namespace Go.Proofs.Qxb6603249a.Wk
open Go.RowKit

set_option maxHeartbeats 400000 in
theorem makeEnd_any (a b c d v : Int) (w : World) :
    Calls Try.prog 8 #[.int .u64 a, .int .u64 b, .int .u64 c, .int .u64 d, .int .u64 v] w fun e w' => e = .returned (.agg #[.int .u64 a, .int .u64 b, .int .u64 c, .int .u64 d, .int .u64 v]) ∧ w.alloc (.cells #[.int .u64 a, .int .u64 b, .int .u64 c, .int .u64 d, .int .u64 v] 26) = w' := by
  go_enter Try.func8, Try.ntmps8
  go_wp2
  exact bodyPost_ret (v := .agg #[.int .u64 a, .int .u64 b, .int .u64 c, .int .u64 d, .int .u64 v]) (by simp [results, Try.results8, go_sem]) rfl ⟨rfl, rfl⟩

set_option maxHeartbeats 400000 in
theorem ZZBefore_any (a b c d v a' b' c' d' v' : Int) (w : World) :
    Calls Try.prog 9 #[.agg #[.int .u64 a, .int .u64 b, .int .u64 c, .int .u64 d, .int .u64 v], .agg #[.int .u64 a', .int .u64 b', .int .u64 c', .int .u64 d', .int .u64 v']] w fun e w' => e = .returned (.bool (bef a b c d a' b' c' d')) ∧ Below w.heap.size w w' := by
  go_enter Try.func9, Try.ntmps9
  go_wp2_with fail
  refine (before_any _ _ _ _ _ _ _ _ _ _ _).mono ?_
  rintro e w' ⟨rfl, hb⟩
  go_wp2
  go_ret
  exact ⟨rfl, (((Below.refl _ _).alloc (Nat.le_refl _) _).alloc (by simp) _).trans (hb.mono (by simp; omega))⟩

theorem tmx_self (t b d : Int) (h : ¬ t < tmx b d) : tmx b t = t ∧ tmx t d = t := by
  unfold tmx at *
  split at h <;> constructor <;> split <;> omega
theorem bef_members (a b c d t : Int) (h : ¬ t < tmx b d) : bef a b c d a b (c + 1) t = true ∧ bef a b (c + 1) t a b c d = false := by
  have h1 := (tmx_self t b d h).1
  unfold bef
  rw [h1]
  by_cases e : tmx b d = t
  · rw [if_pos e, if_pos rfl, if_pos e.symm, if_pos rfl]
    exact ⟨decide_eq_true (by omega), decide_eq_false (by omega)⟩
  · rw [if_neg e, if_neg (fun x => e x.symm)]
    exact ⟨decide_eq_true (by omega), decide_eq_false (by omega)⟩
theorem bef_data (a b c d t : Int) (h : ¬ t < tmx b d) : bef a b c d (a + 1) t c d = true ∧ bef (a + 1) t c d a b c d = false := by
  have h1 := (tmx_self t b d h).2
  unfold bef
  rw [h1]
  by_cases e : tmx b d = t
  · rw [if_pos e, if_neg (by omega), if_pos e.symm, if_neg (by omega)]
    exact ⟨decide_eq_true (by omega), decide_eq_false (by omega)⟩
  · rw [if_neg e, if_neg (fun x => e x.symm)]
    exact ⟨decide_eq_true (by omega), decide_eq_false (by omega)⟩

set_option maxHeartbeats 400000 in
theorem laterOf_any (b d : Int) (w : World) :
    Calls Try.prog 10 #[.int .u64 b, .int .u64 d] w fun e w' => e = .returned (.int .u64 (tmx b d)) ∧ w = w' := by
  by_cases h : b < d
  · have H : Hid (d = tmx b d) := by rw [Hid, tmx, if_pos h]
    go_enter Try.func10, Try.ntmps10
    go_wp2
    go_ret
    exact ⟨ret_int H.out, rfl⟩
  · have H : Hid (b = tmx b d) := by rw [Hid, tmx, if_neg h]
    go_enter Try.func10, Try.ntmps10
    go_wp2
    go_ret
    exact ⟨ret_int H.out, rfl⟩

set_option maxHeartbeats 1000000 in
theorem walk4_early (a b c d v t : Int) (m : Bool) (w : World) (h : t < tmx b d) :
    Calls Try.prog 4 #[.int .u64 a, .int .u64 b, .int .u64 c, .int .u64 d, .int .u64 v, .int .u64 t, .bool m] w fun e w' => e = .returned (.bool true) ∧ Below w.heap.size w w' := by
  go_enter Try.func4, Try.ntmps4
  go_wp2_with (go_at_call 10; refine (laterOf_any _ _ _).mono ?_; rintro e w' ⟨rfl, rfl⟩)
  go_ret
  exact ⟨rfl, Below.refl _ _⟩

theorem boxes4 {w w5 : World} {o0 o3 : Obj} {x0 x1 x2 x3 x4 y0 y1 y2 y3 y4 : Value} (h : Below ((((w.alloc o0).alloc (.cells #[x0, x1, x2, x3, x4] 26)).alloc (.cells #[y0, y1, y2, y3, y4] 26)).alloc o3).heap.size ((((w.alloc o0).alloc (.cells #[x0, x1, x2, x3, x4] 26)).alloc (.cells #[y0, y1, y2, y3, y4] 26)).alloc o3) w5) :
    (w5.cell? ⟨w.heap.size + 1, 0, none⟩ = some x0 ∧ w5.cell? ⟨w.heap.size + 1, 1, none⟩ = some x1 ∧ w5.cell? ⟨w.heap.size + 1, 2, none⟩ = some x2 ∧ w5.cell? ⟨w.heap.size + 1, 3, none⟩ = some x3 ∧ w5.cell? ⟨w.heap.size + 1, 4, none⟩ = some x4) ∧
    (w5.cell? ⟨w.heap.size + 1 + 1, 0, none⟩ = some y0 ∧ w5.cell? ⟨w.heap.size + 1 + 1, 1, none⟩ = some y1 ∧ w5.cell? ⟨w.heap.size + 1 + 1, 2, none⟩ = some y2 ∧ w5.cell? ⟨w.heap.size + 1 + 1, 3, none⟩ = some y3 ∧ w5.cell? ⟨w.heap.size + 1 + 1, 4, none⟩ = some y4) := by
  have e := fun j => h.cell (p := ⟨w.heap.size + 1, j, none⟩) (by simp)
  have f := fun j => h.cell (p := ⟨w.heap.size + 1 + 1, j, none⟩) (by simp)
  refine ⟨⟨?_, ?_, ?_, ?_, ?_⟩, ?_, ?_, ?_, ?_, ?_⟩
  all_goals first | (rw [e]; go_cell; done) | (rw [f]; go_cell; done) | (rw [e]; simp; done) | (rw [f]; simp; done)
theorem below4 {w w5 : World} {o0 o1 o2 o3 : Obj} (h : Below ((((w.alloc o0).alloc o1).alloc o2).alloc o3).heap.size ((((w.alloc o0).alloc o1).alloc o2).alloc o3) w5) : Below w.heap.size w w5 :=
  (((((Below.refl _ _).alloc (Nat.le_refl _) _).alloc (by simp) _).alloc (by simp; omega) _).alloc (by simp; omega) _).trans (h.mono (by simp; omega))

set_option maxHeartbeats 1000000 in
theorem walk4_t (a b c d v t : Int) (w : World) (h : ¬ t < tmx b d) (c0 : 0 ≤ c) (c1 : c ≤ 18446744073709551614) :
    Calls Try.prog 4 #[.int .u64 a, .int .u64 b, .int .u64 c, .int .u64 d, .int .u64 v, .int .u64 t, .bool true] w fun e w' => e = .returned (.bool true) ∧ Below w.heap.size w w' := by
  have k1 : (c == 18446744073709551615) = false := by rw [beq_eq_false_iff_ne]; omega
  obtain ⟨q1, q2⟩ := bef_members a b c d t h
  have H1 : Hid (bef a b c d a b (c + 1) t = true) := q1
  have H2 : Hid (bef a b (c + 1) t a b c d = false) := q2
  clear q1 q2
  go_enter Try.func4, Try.ntmps4
  go_wp2_with (first | (go_at_call 10; refine (laterOf_any _ _ _).mono ?_; rintro e w' ⟨rfl, rfl⟩) | (go_at_call 8; refine (makeEnd_any _ _ _ _ _ _).mono ?_; rintro e w' ⟨rfl, rfl⟩))
  refine (ZZBefore_any _ _ _ _ _ _ _ _ _ _ _).mono ?_
  rintro e w5 ⟨rfl, hb⟩
  rw [H1.out]
  obtain ⟨⟨x0, x1, x2, x3, x4⟩, y0, y1, y2, y3, y4⟩ := boxes4 hb
  have hw := below4 hb
  clear hb
  go_wp2_with fail
  refine (ZZBefore_any _ _ _ _ _ _ _ _ _ _ _).mono ?_
  rintro e w6 ⟨rfl, hb⟩
  rw [H2.out]
  have hw2 : Below w.heap.size w w6 := hw.trans (hb.mono hw.size)
  clear hb hw
  go_wp2
  go_ret
  exact ⟨rfl, hw2⟩

set_option maxHeartbeats 1000000 in
theorem walk4_f (a b c d v t : Int) (w : World) (h : ¬ t < tmx b d) (c0 : 0 ≤ a) (c1 : a ≤ 18446744073709551614) :
    Calls Try.prog 4 #[.int .u64 a, .int .u64 b, .int .u64 c, .int .u64 d, .int .u64 v, .int .u64 t, .bool false] w fun e w' => e = .returned (.bool true) ∧ Below w.heap.size w w' := by
  have k1 : (a == 18446744073709551615) = false := by rw [beq_eq_false_iff_ne]; omega
  obtain ⟨q1, q2⟩ := bef_data a b c d t h
  have H1 : Hid (bef a b c d (a + 1) t c d = true) := q1
  have H2 : Hid (bef (a + 1) t c d a b c d = false) := q2
  clear q1 q2
  go_enter Try.func4, Try.ntmps4
  go_wp2_with (first | (go_at_call 10; refine (laterOf_any _ _ _).mono ?_; rintro e w' ⟨rfl, rfl⟩) | (go_at_call 8; refine (makeEnd_any _ _ _ _ _ _).mono ?_; rintro e w' ⟨rfl, rfl⟩))
  refine (ZZBefore_any _ _ _ _ _ _ _ _ _ _ _).mono ?_
  rintro e w5 ⟨rfl, hb⟩
  rw [H1.out]
  obtain ⟨⟨x0, x1, x2, x3, x4⟩, y0, y1, y2, y3, y4⟩ := boxes4 hb
  have hw := below4 hb
  clear hb
  go_wp2_with fail
  refine (ZZBefore_any _ _ _ _ _ _ _ _ _ _ _).mono ?_
  rintro e w6 ⟨rfl, hb⟩
  rw [H2.out]
  have hw2 : Below w.heap.size w w6 := hw.trans (hb.mono hw.size)
  clear hb hw
  go_wp2
  go_ret
  exact ⟨rfl, hw2⟩

theorem u64_bounds {a : Int} (h : (Lit.int .u64 a).wf = true) : 0 ≤ a ∧ a ≤ 18446744073709551615 := bounds_u64 h

set_option maxHeartbeats 1000000 in
theorem walk4_max (a b c d v t : Int) (m : Bool) (w : World) (h : ¬ t < tmx b d) (hm : (m = true ∧ c = 18446744073709551615) ∨ (m = false ∧ a = 18446744073709551615)) :
    Calls Try.prog 4 #[.int .u64 a, .int .u64 b, .int .u64 c, .int .u64 d, .int .u64 v, .int .u64 t, .bool m] w fun e w' => e = .returned (.bool true) ∧ Below w.heap.size w w' := by
  rcases hm with ⟨rfl, hc⟩ | ⟨rfl, hc⟩
  · have k1 : (c == 18446744073709551615) = true := by rw [hc]; rfl
    clear hc
    go_enter Try.func4, Try.ntmps4
    go_wp2_with (first | (go_at_call 10; refine (laterOf_any _ _ _).mono ?_; rintro e w' ⟨rfl, rfl⟩) | (go_at_call 8; refine (makeEnd_any _ _ _ _ _ _).mono ?_; rintro e w' ⟨rfl, rfl⟩))
    go_ret
    exact ⟨rfl, by go_grown⟩
  · have k1 : (a == 18446744073709551615) = true := by rw [hc]; rfl
    clear hc
    go_enter Try.func4, Try.ntmps4
    go_wp2_with (first | (go_at_call 10; refine (laterOf_any _ _ _).mono ?_; rintro e w' ⟨rfl, rfl⟩) | (go_at_call 8; refine (makeEnd_any _ _ _ _ _ _).mono ?_; rintro e w' ⟨rfl, rfl⟩))
    go_ret
    exact ⟨rfl, by go_grown⟩

theorem walk4 (a b c d v t : Int) (m : Bool) (w0 : (Lit.int .u64 a).wf = true) (w2 : (Lit.int .u64 c).wf = true) (w : World) :
    Calls Try.prog 4 #[.int .u64 a, .int .u64 b, .int .u64 c, .int .u64 d, .int .u64 v, .int .u64 t, .bool m] w fun e w' => e = .returned (.bool true) ∧ Below w.heap.size w w' := by
  have b0 := u64_bounds w0
  have b2 := u64_bounds w2
  by_cases h : t < tmx b d
  · exact walk4_early a b c d v t m w h
  cases m
  · by_cases e : a = 18446744073709551615
    · exact walk4_max a b c d v t false w h (Or.inr ⟨rfl, e⟩)
    · exact walk4_f a b c d v t w h b0.1 (by omega)
  · by_cases e : c = 18446744073709551615
    · exact walk4_max a b c d v t true w h (Or.inl ⟨rfl, e⟩)
    · exact walk4_t a b c d v t w h b2.1 (by omega)

end Go.Proofs.Qxb6603249a.Wk
