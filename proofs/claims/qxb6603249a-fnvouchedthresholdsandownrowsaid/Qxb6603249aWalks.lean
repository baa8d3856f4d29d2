/-
  THE WALKS of package election: term, before, ZZBefore, ZZMakeEnd.
-/
import Derived.Test.Qxb6603249aRows
import Derived.WalkKit
import Derived.WalkLawsBesides
import Derived.WalkSpells
import Derived.Deep.QuietTactic
import Derived.BigQuiet
import Derived.BigRegion
import Derived.Deep.RegionWith
import Derived.Outline
import Derived.Handy
import Derived.Deep.DeepCutAuto
namespace Go.Proofs.Qxb6603249a.Wk
open Go.RowKit

theorem ret_int {k : IntKind} {a b : Int} (h : a = b) : Ending.returned (.int k a) = .returned (.int k b) := by rw [h]
theorem ret_bool {a b : Bool} (h : a = b) : Ending.returned (.bool a) = .returned (.bool b) := by rw [h]

/-- The later of two terms. -/
def tmx (b d : Int) : Int := if b < d then d else b

set_option maxHeartbeats 400000 in
theorem term_any (a b c d v : Int) (w : World) :
    Calls Try.prog 20 #[.agg #[.int .u64 a, .int .u64 b, .int .u64 c, .int .u64 d, .int .u64 v]] w fun e w' => e = .returned (.int .u64 (tmx b d)) ∧ w.alloc (.cells #[.int .u64 a, .int .u64 b, .int .u64 c, .int .u64 d, .int .u64 v] 26) = w' := by
  by_cases h : b < d
  · have H : Hid (d = tmx b d) := by rw [Hid, tmx, if_pos h]
    go_enter Try.func20, Try.ntmps20
    go_wp2
    go_ret
    exact ⟨ret_int H.out, rfl⟩
  · have H : Hid (b = tmx b d) := by rw [Hid, tmx, if_neg h]
    go_enter Try.func20, Try.ntmps20
    go_wp2
    go_ret
    exact ⟨ret_int H.out, rfl⟩

/-- Do logs that end at the first lack a record of those that end at the second? -/
def bef (a b c d a' b' c' d' : Int) : Bool :=
  if tmx b d = tmx b' d' then (if a = a' then decide (c < c') else decide (a < a')) else decide (tmx b d < tmx b' d')

theorem boxes {w wc : World} {x0 x1 x2 x3 x4 y0 y1 y2 y3 y4 : Value} (h : Below (w.heap.size + 2) ((w.alloc (.cells #[x0, x1, x2, x3, x4] 26)).alloc (.cells #[y0, y1, y2, y3, y4] 26)) wc) :
    (wc.cell? ⟨w.heap.size, 0, none⟩ = some x0 ∧ wc.cell? ⟨w.heap.size, 1, none⟩ = some x1 ∧ wc.cell? ⟨w.heap.size, 2, none⟩ = some x2 ∧ wc.cell? ⟨w.heap.size, 3, none⟩ = some x3 ∧ wc.cell? ⟨w.heap.size, 4, none⟩ = some x4) ∧
    (wc.cell? ⟨w.heap.size + 1, 0, none⟩ = some y0 ∧ wc.cell? ⟨w.heap.size + 1, 1, none⟩ = some y1 ∧ wc.cell? ⟨w.heap.size + 1, 2, none⟩ = some y2 ∧ wc.cell? ⟨w.heap.size + 1, 3, none⟩ = some y3 ∧ wc.cell? ⟨w.heap.size + 1, 4, none⟩ = some y4) := by
  have e := fun j => h.cell (p := ⟨w.heap.size, j, none⟩) (by simp)
  have f := fun j => h.cell (p := ⟨w.heap.size + 1, j, none⟩) (by simp)
  refine ⟨⟨?_, ?_, ?_, ?_, ?_⟩, ?_, ?_, ?_, ?_, ?_⟩
  all_goals first | (rw [e]; go_cell; done) | (rw [f]; go_cell; done)

set_option maxHeartbeats 1000000 in
theorem before_any (a b c d v a' b' c' d' v' : Int) (w : World) :
    Calls Try.prog 18 #[.agg #[.int .u64 a, .int .u64 b, .int .u64 c, .int .u64 d, .int .u64 v], .agg #[.int .u64 a', .int .u64 b', .int .u64 c', .int .u64 d', .int .u64 v']] w fun e w' => e = .returned (.bool (bef a b c d a' b' c' d')) ∧ Below w.heap.size w w' := by
  have hB : Hid (bef a b c d a' b' c' d' = if tmx b d = tmx b' d' then (if a = a' then decide (c < c') else decide (a < a')) else decide (tmx b d < tmx b' d')) := rfl
  generalize bef a b c d a' b' c' d' = R at *
  go_enter Try.func18, Try.ntmps18
  go_upto_region 1 with fail
  go_cut [5] (fun x wx => x = .bool (tmx b d != tmx b' d') ∧ Below (w.heap.size + 2) ((w.alloc (.cells #[.int .u64 a, .int .u64 b, .int .u64 c, .int .u64 d, .int .u64 v] 26)).alloc (.cells #[.int .u64 a', .int .u64 b', .int .u64 c', .int .u64 d', .int .u64 v'] 26)) wx)
  case first =>
    go_region_with (go_at_call 20; refine (term_any _ _ _ _ _ _).mono ?_; rintro e w' ⟨rfl, rfl⟩)
    all_goals
      go_wp2
      go_meet
      case rel => exact ⟨rfl, by go_grown⟩
  case rest =>
    obtain ⟨rfl, hb⟩ := hcut
    obtain ⟨⟨x0, x1, x2, x3, x4⟩, y0, y1, y2, y3, y4⟩ := boxes hb
    have hw : Below w.heap.size w wc := (((Below.refl _ _).alloc (Nat.le_refl _) _).alloc (by simp) _).trans (hb.mono (by omega))
    have hz := hb.size
    simp only [World.size_alloc] at hz
    have hz1 : w.heap.size < wc.heap.size := by omega
    have hz2 : w.heap.size + 1 < wc.heap.size := by omega
    clear hb hz
    by_cases hT : tmx b d = tmx b' d'
    · have kT : (tmx b d != tmx b' d') = false := by simp [hT]
      by_cases hA : a = a'
      · have kA : (a != a') = false := by simp [hA]
        have hB' : Hid (decide (c < c') = R) := by rw [Hid, hB.out, if_pos hT, if_pos hA]
        clear hT hA
        go_wp2
        go_ret
        exact ⟨ret_bool hB'.out, hw⟩
      · have kA : (a != a') = true := by simp [hA]
        have hB' : Hid (decide (a < a') = R) := by rw [Hid, hB.out, if_pos hT, if_neg hA]
        clear hT hA
        go_wp2
        go_ret
        exact ⟨ret_bool hB'.out, hw⟩
    · have kT : (tmx b d != tmx b' d') = true := by simp [hT]
      have hB' : Hid (decide (tmx b d < tmx b' d') = R) := by rw [Hid, hB.out, if_neg hT]
      clear hT
      go_wp2
      go_region_with (go_at_call 20; refine (term_any _ _ _ _ _ _).mono ?_; rintro e w' ⟨rfl, rfl⟩)
      all_goals
        go_wp2
        go_ret
        exact ⟨ret_bool hB'.out, by refine hw.trans ?_; go_grown⟩

end Go.Proofs.Qxb6603249a.Wk
