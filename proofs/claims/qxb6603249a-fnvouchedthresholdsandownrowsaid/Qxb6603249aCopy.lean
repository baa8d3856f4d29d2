/-
  THE WALK of copyEntries.
-/
import Derived.Test.Qxb6603249aSeen
namespace Go.Proofs.Qxb6603249a.Wk
open Go.RowKit

theorem info43 : (Try.prog.info? 43).map (fun i => (i.zero, i.size, i.bytes)) = some (some (.agg #[.string ByteArray.empty, .int .u64 0, .int .u64 0, .int .u64 0, .int .u64 0, .int .u64 0]), 6, 56) := by kernel_rfl

/-- Block G holds n rows of six cells each, none frozen, of which the first k are written. -/
def Cp (w : World) (G n k : Nat) (f : Nat → Ent) : Prop := (∀ j, j < n * 6 → (∃ v, w.cell? ⟨G, j, none⟩ = some v) ∧ w.frozen? ⟨G, j, none⟩ = false) ∧ Rows6 w G 0 k f

def Has (w : World) (G n : Nat) : Prop := ∀ j, j < n → ∃ v, w.cell? ⟨G, j, none⟩ = some v
theorem set_at {w : World} {G n t : Nat} (h : Has w G n) (ht : t < n) (v : Value) (j : Nat) : (w.setCell ⟨G, t, none⟩ v).cell? ⟨G, j, none⟩ = if j = t then some v else w.cell? ⟨G, j, none⟩ := by
  by_cases e : j = t
  · subst e
    obtain ⟨u, hu⟩ := h j ht
    rw [if_pos rfl]
    exact World.cell?_setCell_same _ _ _ hu
  · have hx : (⟨G, t, none⟩ : Addr) ≠ ⟨G, j, none⟩ := fun e2 => e (congrArg Addr.off e2).symm
    rw [if_neg e]
    exact World.cell?_setCell_other _ _ _ _ hx
theorem Has.set {w : World} {G n t : Nat} (h : Has w G n) (ht : t < n) (v : Value) : Has (w.setCell ⟨G, t, none⟩ v) G n := fun j hj => by
  rw [set_at h ht]
  by_cases e : j = t
  · rw [if_pos e]; exact ⟨_, rfl⟩
  · rw [if_neg e]; exact h j hj
theorem Cp.step {w : World} {G n k : Nat} {f : Nat → Ent} (h : Cp w G n k f) (hk : k < n) :
    Cp ((((((w.setCell ⟨G, k * 6, none⟩ (.string (f k).nm)).setCell ⟨G, k * 6 + 1, none⟩ (.int .u64 (f k).a)).setCell ⟨G, k * 6 + 2, none⟩ (.int .u64 (f k).b)).setCell ⟨G, k * 6 + 3, none⟩ (.int .u64 (f k).c)).setCell ⟨G, k * 6 + 4, none⟩ (.int .u64 (f k).d)).setCell ⟨G, k * 6 + 5, none⟩ (.int .u64 (f k).v)) G n (k + 1) f := by
  have h0 : Has w G (n * 6) := fun j hj => (h.1 j hj).1
  have h1 := h0.set (t := k * 6) (by omega) (.string (f k).nm)
  have h2 := h1.set (t := k * 6 + 1) (by omega) (.int .u64 (f k).a)
  have h3 := h2.set (t := k * 6 + 2) (by omega) (.int .u64 (f k).b)
  have h4 := h3.set (t := k * 6 + 3) (by omega) (.int .u64 (f k).c)
  have h5 := h4.set (t := k * 6 + 4) (by omega) (.int .u64 (f k).d)
  have h6 := h5.set (t := k * 6 + 5) (by omega) (.int .u64 (f k).v)
  refine ⟨fun j hj => ⟨h6 j hj, by simp only [World.frozen?_setCell]; exact (h.1 j hj).2⟩, fun i hi => ?_⟩
  simp only [set_at h5 (show k * 6 + 5 < n * 6 by omega), set_at h4 (show k * 6 + 4 < n * 6 by omega), set_at h3 (show k * 6 + 3 < n * 6 by omega), set_at h2 (show k * 6 + 2 < n * 6 by omega), set_at h1 (show k * 6 + 1 < n * 6 by omega), set_at h0 (show k * 6 < n * 6 by omega)]
  by_cases e : i = k
  · subst e
    refine ⟨?_, ?_, ?_, ?_, ?_, ?_⟩
    all_goals
      repeat rw [if_neg (by omega)]
      rw [if_pos (by omega)]
  · have := h.2 i (by omega)
    obtain ⟨g0, g1, g2, g3, g4, g5⟩ := this
    refine ⟨?_, ?_, ?_, ?_, ?_, ?_⟩
    all_goals repeat rw [if_neg (by omega)]
    · exact g0
    · exact g1
    · exact g2
    · exact g3
    · exact g4
    · exact g5
theorem bel_step {w wr : World} {k : Nat} {v0 v1 v2 v3 v4 v5 : Value} (h : Below w.heap.size w wr) :
    Below w.heap.size w ((((((wr.setCell ⟨w.heap.size, k * 6, none⟩ v0).setCell ⟨w.heap.size, k * 6 + 1, none⟩ v1).setCell ⟨w.heap.size, k * 6 + 2, none⟩ v2).setCell ⟨w.heap.size, k * 6 + 3, none⟩ v3).setCell ⟨w.heap.size, k * 6 + 4, none⟩ v4).setCell ⟨w.heap.size, k * 6 + 5, none⟩ v5) :=
  (((((h.setCell (Nat.le_refl _) _).setCell (Nat.le_refl _) _).setCell (Nat.le_refl _) _).setCell (Nat.le_refl _) _).setCell (Nat.le_refl _) _).setCell (Nat.le_refl _) _

theorem rows_below {w wr : World} {g off n : Nat} {f : Nat → Ent} (hb : Below w.heap.size w wr) (hg : g < w.heap.size) (h : Rows6 w g off n f) {i : Nat} (hi : i < n) :
    wr.cell? ⟨g, off + i * 6, none⟩ = some (.string (f i).nm) ∧ wr.cell? ⟨g, off + i * 6 + 1, none⟩ = some (.int .u64 (f i).a) ∧ wr.cell? ⟨g, off + i * 6 + 2, none⟩ = some (.int .u64 (f i).b) ∧
    wr.cell? ⟨g, off + i * 6 + 3, none⟩ = some (.int .u64 (f i).c) ∧ wr.cell? ⟨g, off + i * 6 + 4, none⟩ = some (.int .u64 (f i).d) ∧ wr.cell? ⟨g, off + i * 6 + 5, none⟩ = some (.int .u64 (f i).v) := by
  obtain ⟨h0, h1, h2, h3, h4, h5⟩ := h i hi
  have e := fun o => hb.cell (p := ⟨g, o, none⟩) hg
  exact ⟨(e _).trans h0, (e _).trans h1, (e _).trans h2, (e _).trans h3, (e _).trans h4, (e _).trans h5⟩

set_option maxHeartbeats 1000000 in
theorem copy_some (g off n cap : Nat) (f : Nat → Ent) (w : World) (hR : Rows6 w g off n f) (hg : g < w.heap.size) (hn : n ≤ 4096) :
    Calls Try.prog 13 #[.slice (some ⟨g, off, none⟩) n cap] w fun e w' => e = .returned (.slice (some ⟨w.heap.size, 0, none⟩) n n) ∧ Rows6 w' w.heap.size 0 n f ∧ Below w.heap.size w w' := by
  obtain ⟨i0, hi, hz0, hz1, hz2⟩ := info_parts info43
  have heq := fun (wx : World) => Lib.run_eql_slice_nil (P := Try.prog) wx 32 43 (some ⟨g, off, none⟩) n cap 0 0 Try.underlying32
  go_enter Try.func13, Try.ntmps13
  go_wp2_with (at_make; refine wpList_make_full _ rfl _ _ 32 rfl w.heap.size 43 i0 _ 6 Try.underlying32 hi hz0 hz1 _ _ _ _ n rfl rfl (by omega) (by omega) (by rw [hz2]; omega) (by unfold maxLen; omega) (Nat.le_refl _) ?_)
  intro w1 hown hgrow
  have hbel : Below w.heap.size w w1 := (Below.refl _ _).grown hgrow (Nat.le_refl _) (fun k hk => by cases hk)
  have hC : Cp w1 w.heap.size n 0 f := ⟨fun j hj => ⟨by
    have h1 := hown.cellAt j hj
    have h2 := hown.1
    have h3 : j < (madeCells #[Value.string ByteArray.empty, Value.int IntKind.u64 0, Value.int IntKind.u64 0, Value.int IntKind.u64 0, Value.int IntKind.u64 0, Value.int IntKind.u64 0] (n * 6)).toList.length := by rw [h2]; exact hj
    exact ⟨_, h1.trans (List.getElem?_eq_getElem h3)⟩, hown.frozenAt j⟩, fun i hi => absurd hi (by omega)⟩
  clear hown hgrow
  go_wp2
  go_loopg [4] n (fun m xi wr => ∃ k : Nat, k + m = n ∧ xi = .int .i64 k ∧ Cp wr w.heap.size n k f ∧ Below w.heap.size w wr)
  case atStart => exact ⟨0, by omega, rfl, hC, hbel⟩
  case round =>
    clear hC hbel
    obtain ⟨k, hk, rfl, hC, hbel⟩ := hrel
    by_cases hlt : k < n
    · obtain ⟨r0, r1, r2, r3, r4, r5⟩ := rows_below hbel hg hR hlt
      obtain ⟨⟨v0, c0⟩, z0⟩ := hC.1 (k * 6) (by omega)
      obtain ⟨⟨v1, c1⟩, z1⟩ := hC.1 (k * 6 + 1) (by omega)
      obtain ⟨⟨v2, c2⟩, z2⟩ := hC.1 (k * 6 + 2) (by omega)
      obtain ⟨⟨v3, c3⟩, z3⟩ := hC.1 (k * 6 + 3) (by omega)
      obtain ⟨⟨v4, c4⟩, z4⟩ := hC.1 (k * 6 + 4) (by omega)
      obtain ⟨⟨v5, c5⟩, z5⟩ := hC.1 (k * 6 + 5) (by omega)
      go_wp2
      go_roundg (n - (k + 1))
      case measure => omega
      case rel => exact ⟨k + 1, by omega, by go_num, hC.step hlt, bel_step hbel⟩
    · go_wp2
      go_ret
      have e : k = n := by omega
      subst e
      exact ⟨rfl, hC.2, hbel⟩

set_option maxHeartbeats 1000000 in
/-- No rows, but not nil. -/
theorem copy_empty (a : Addr) (cap : Nat) (w : World) :
    Calls Try.prog 13 #[.slice (some a) 0 cap] w fun e w' => e = .returned (.slice (some ⟨w.heap.size, 0, none⟩) 0 0) ∧ Below w.heap.size w w' ∧ w.heap.size < w'.heap.size := by
  obtain ⟨i0, hi, hz0, hz1, hz2⟩ := info_parts info43
  have heq := fun (wx : World) => Lib.run_eql_slice_nil (P := Try.prog) wx 32 43 (some a) 0 cap 0 0 Try.underlying32
  go_enter Try.func13, Try.ntmps13
  go_wp2_with (at_make; refine wpList_make_full _ rfl _ _ 32 rfl w.heap.size 43 i0 _ 6 Try.underlying32 hi hz0 hz1 _ _ _ _ 0 rfl rfl (by omega) (by omega) (by rw [hz2]; omega) (by unfold maxLen; omega) (Nat.le_refl _) ?_)
  intro w1 hown hgrow
  have hbel : Below w.heap.size w w1 := (Below.refl _ _).grown hgrow (Nat.le_refl _) (fun k hk => by cases hk)
  have hlt := (hown.lt w.heap.size rfl).2
  clear hown hgrow
  go_wp2
  go_rounds 1
  go_ret
  exact ⟨rfl, hbel, hlt⟩

set_option maxHeartbeats 1000000 in
theorem copy_nil (w : World) :
    Calls Try.prog 13 #[.slice none 0 0] w fun e w' => e = .returned (.slice none 0 0) ∧ w = w' := by
  have heq := fun (wx : World) => Lib.run_eql_slice_nil (P := Try.prog) wx 32 43 none 0 0 0 0 Try.underlying32
  go_enter Try.func13, Try.ntmps13
  go_wp2
  go_ret
  exact ⟨rfl, rfl⟩

end Go.Proofs.Qxb6603249a.Wk
