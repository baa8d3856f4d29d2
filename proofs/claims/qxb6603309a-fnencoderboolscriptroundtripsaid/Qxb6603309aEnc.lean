/-
  THE WALKS of the encoder: zzB1CopyBools, (*encoder).bool, ZZEncoderBool.
-/
import Derived.Test.Qxb6603309aRows
import Derived.WalkKit
import Derived.WalkLawsBesides
import Derived.WalkSpells
import Derived.Deep.QuietTactic
import Derived.BigQuiet
import Derived.Outline
import Derived.Handy
import Derived.Deep.DeepCutAuto
import Derived.Deep.AppendLies
namespace Go.Proofs.Qxb6603309a.Wk
open Go.RowKit

theorem ret_int {k : IntKind} {a b : Int} (h : a = b) : Ending.returned (.int k a) = .returned (.int k b) := by rw [h]
theorem ret_bool {a b : Bool} (h : a = b) : Ending.returned (.bool a) = .returned (.bool b) := by rw [h]
theorem info4 : (Try.prog.info? 4).map (fun i => (i.zero, i.size, i.bytes)) = some (some (.bool false), 1, 1) := by kernel_rfl
theorem info5 : (Try.prog.info? 5).map (fun i => (i.zero, i.size, i.bytes)) = some (some (.int .u8 0), 1, 1) := by kernel_rfl

/-- The bools' cells lie behind the address ⟨g, off⟩. -/
def Bs (w : World) (g off n : Nat) (f : Nat → Bool) : Prop := ∀ i, i < n → w.cell? ⟨g, off + i, none⟩ = some (.bool (f i))
/-- Block G holds n cells, none frozen, of which the first k are written. -/
def Cp (w : World) (G n k : Nat) (f : Nat → Bool) : Prop := (∀ j, j < n → (∃ v, w.cell? ⟨G, j, none⟩ = some v) ∧ w.frozen? ⟨G, j, none⟩ = false) ∧ Bs w G 0 k f
theorem Cp.step {w : World} {G n k : Nat} {f : Nat → Bool} (h : Cp w G n k f) (hk : k < n) : Cp (w.setCell ⟨G, k, none⟩ (.bool (f k))) G n (k + 1) f := by
  obtain ⟨u, hu⟩ := (h.1 k hk).1
  have key : ∀ j, (w.setCell ⟨G, k, none⟩ (.bool (f k))).cell? ⟨G, j, none⟩ = if j = k then some (.bool (f k)) else w.cell? ⟨G, j, none⟩ := fun j => by
    by_cases e : j = k
    · subst e
      rw [if_pos rfl]
      exact World.cell?_setCell_same _ _ _ hu
    · have hx : (⟨G, k, none⟩ : Addr) ≠ ⟨G, j, none⟩ := fun e2 => e (congrArg Addr.off e2).symm
      rw [if_neg e]
      exact World.cell?_setCell_other _ _ _ _ hx
  refine ⟨fun j hj => ⟨?_, by rw [World.frozen?_setCell]; exact (h.1 j hj).2⟩, fun i hi => ?_⟩
  · rw [key]
    by_cases e : j = k
    · rw [if_pos e]; exact ⟨_, rfl⟩
    · rw [if_neg e]; exact (h.1 j hj).1
  · rw [key, Nat.zero_add]
    by_cases e : i = k
    · rw [if_pos e, e]
    · rw [if_neg e]
      have := h.2 i (by omega)
      rw [Nat.zero_add] at this
      exact this

set_option maxHeartbeats 1000000 in
theorem copy_some (g off n cap : Nat) (f : Nat → Bool) (w : World) (hR : Bs w g off n f) (hg : g < w.heap.size) (hn : n ≤ 1048576) :
    Calls Try.prog 9 #[.slice (some ⟨g, off, none⟩) n cap] w fun e w' => e = .returned (.slice (some ⟨w.heap.size, 0, none⟩) n n) ∧ Bs w' w.heap.size 0 n f ∧ Below w.heap.size w w' ∧ w.heap.size < w'.heap.size := by
  obtain ⟨i0, hi, hz0, hz1, hz2⟩ := info_parts info4
  have heq := fun (wx : World) => Lib.run_eql_slice_nil (P := Try.prog) wx 25 4 (some ⟨g, off, none⟩) n cap 0 0 Try.underlying25
  go_enter Try.func9, Try.ntmps9
  go_wp2_with (at_make; refine wpList_make_full _ rfl _ _ 25 rfl w.heap.size 4 i0 _ 1 Try.underlying25 hi hz0 hz1 _ _ _ _ n rfl rfl (by omega) (by omega) (by rw [hz2]; omega) (by unfold maxLen; omega) (Nat.le_refl _) ?_)
  intro w1 hown hgrow
  have hbel : Below w.heap.size w w1 := (Below.refl _ _).grown hgrow (Nat.le_refl _) (fun k hk => by cases hk)
  have hlt1 := (hown.lt w.heap.size rfl).2
  have hC : Cp w1 w.heap.size n 0 f := ⟨fun j hj => ⟨by
    exact ⟨.bool false, (hown.cellAt j (by omega)).trans (by rw [toList_madeCells_one]; simp [hj])⟩, hown.frozenAt j⟩, fun i hi => absurd hi (by omega)⟩
  clear hown hgrow
  go_wp2
  go_loopg [4] n (fun m xi wr => ∃ k : Nat, k + m = n ∧ xi = .int .i64 k ∧ Cp wr w.heap.size n k f ∧ Below w.heap.size w wr ∧ w.heap.size < wr.heap.size)
  case atStart => exact ⟨0, by omega, rfl, hC, hbel, hlt1⟩
  case round =>
    clear hC hbel hlt1
    obtain ⟨k, hk, rfl, hC, hbel, hls⟩ := hrel
    by_cases hlt : k < n
    · have r0 : wr.cell? ⟨g, off + k, none⟩ = some (.bool (f k)) := (hbel.cell (p := ⟨g, off + k, none⟩) hg).trans (hR k hlt)
      obtain ⟨⟨v0, c0⟩, z0⟩ := hC.1 k hlt
      go_wp2
      go_roundg (n - (k + 1))
      case measure => omega
      case rel => exact ⟨k + 1, by omega, by go_num, hC.step hlt, hbel.setCell (Nat.le_refl _) _, by rw [World.size_setCell]; exact hls⟩
    · go_wp2
      go_ret
      have e : k = n := by omega
      subst e
      exact ⟨rfl, hC.2, hbel, hls⟩

set_option maxHeartbeats 1000000 in
theorem copy_empty (a : Addr) (cap : Nat) (w : World) :
    Calls Try.prog 9 #[.slice (some a) 0 cap] w fun e w' => e = .returned (.slice (some ⟨w.heap.size, 0, none⟩) 0 0) ∧ Below w.heap.size w w' ∧ w.heap.size < w'.heap.size := by
  obtain ⟨i0, hi, hz0, hz1, hz2⟩ := info_parts info4
  have heq := fun (wx : World) => Lib.run_eql_slice_nil (P := Try.prog) wx 25 4 (some a) 0 cap 0 0 Try.underlying25
  go_enter Try.func9, Try.ntmps9
  go_wp2_with (at_make; refine wpList_make_full _ rfl _ _ 25 rfl w.heap.size 4 i0 _ 1 Try.underlying25 hi hz0 hz1 _ _ _ _ 0 rfl rfl (by omega) (by omega) (by rw [hz2]; omega) (by unfold maxLen; omega) (Nat.le_refl _) ?_)
  intro w1 hown hgrow
  have hbel : Below w.heap.size w w1 := (Below.refl _ _).grown hgrow (Nat.le_refl _) (fun k hk => by cases hk)
  have hlt := (hown.lt w.heap.size rfl).2
  clear hown hgrow
  go_wp2
  go_rounds 1
  go_ret
  exact ⟨rfl, hbel, hlt⟩

set_option maxHeartbeats 1000000 in
theorem copy_nil (w : World) :
    Calls Try.prog 9 #[.slice none 0 0] w fun e w' => e = .returned (.slice none 0 0) ∧ w = w' := by
  have heq := fun (wx : World) => Lib.run_eql_slice_nil (P := Try.prog) wx 25 4 none 0 0 0 0 Try.underlying25
  go_enter Try.func9, Try.ntmps9
  go_wp2
  go_ret
  exact ⟨rfl, rfl⟩

/-- What a bool is written as. -/
def b2 (x : Bool) : Int := if x then 1 else 0
theorem one_cell (w : World) (a : Value) (j : Nat) (u : Value) (h : [a][j]? = some u) : (w.alloc (.cells #[a] 5)).cell? ((⟨w.heap.size, 0, none⟩ : Addr).add j) = some u := by
  match j, h with
  | 0, h => simp at h; subst h; simp [Addr.add]
theorem one_one (x : Int) (u : Value) (h : u ∈ [Value.int .u8 x]) : u.oneCell' = true := by
  simp at h
  subst h; rfl
theorem own_set {w : World} {base n cap g E : Nat} {xs : List Value} (h : w.ownsRow base 5 1 (.slice (some ⟨g, 0, none⟩) n cap) n xs) (hne : E ≠ g) (v : Value) : (w.setCell ⟨E, 0, none⟩ v).ownsRow base 5 1 (.slice (some ⟨g, 0, none⟩) n cap) n xs := by
  refine h.kept (row := some E) ⟨rfl, rfl, rfl, by rw [World.size_setCell]; exact Nat.le_refl _, fun k _ hk => ?_⟩ (Or.inr (by simp [Value.ownBlock]; omega))
  exact Below.heap_setCell w ⟨E, 0, none⟩ v k (fun e => hk (by rw [e]))

set_option maxHeartbeats 1000000 in
theorem enc_any (x : Bool) (E n cap base : Nat) (ao : Option Addr) (xs : List Value) (w : World) (hc : w.cell? ⟨E, 0, none⟩ = some (.slice ao n cap)) (hf : w.frozen? ⟨E, 0, none⟩ = false)
    (hown : w.ownsRow base 5 1 (.slice ao n cap) n xs) (hne : (Value.slice ao n cap).ownBlock ≠ some E) (hn : n ≤ 1048576) (hb : base ≤ w.heap.size) (hEb : base ≤ E) :
    Calls Try.prog 12 #[.pointer (some ⟨E, 0, none⟩), .bool x] w fun e w' => e = .returned (.tuple #[]) ∧ ∃ g cap', w'.cell? ⟨E, 0, none⟩ = some (.slice (some ⟨g, 0, none⟩) (n + 1) cap') ∧ w'.ownsRow base 5 1 (.slice (some ⟨g, 0, none⟩) (n + 1) cap') (n + 1) (xs ++ [.int .u8 (b2 x)]) ∧ Below base w w' := by
  obtain ⟨i0, hi, hz0, hz1, hz2⟩ := info_parts info5
  have hE : E < w.heap.size := World.block_lt_of_cell? w ⟨E, 0, none⟩ hc
  have hE' : ∀ y : Int, (w.alloc (.cells #[.int .u8 y] 5)).cell? ⟨E, 0, none⟩ = some (.slice ao n cap) := fun y => by rw [World.cell?_alloc_lt _ _ _ hE]; exact hc
  cases x
  · go_enter Try.func12, Try.ntmps12
    go_wp2_with (at_builtin; refine wpList_append_lies _ rfl _ _ 28 rfl base 5 i0 (.int .u8 0) 1 1 Try.underlying28 hi hz0 hz1 hz2 rfl (by omega) (.slice ao n cap) n xs rfl (hown.alloc _) ⟨w.heap.size, 0, none⟩ 1 1 [.int .u8 0] rfl rfl (fun j u h => one_cell _ _ j u h) (one_one _) (by omega) (by unfold maxLen; omega) (by omega) (by simp; omega) (w.heap.size + 1) (by simp) ?_)
    intro g cap' w1 hown1 hgrow hat hlt
    have hgE : E ≠ g := by
      rcases hat with h1 | h1
      · exact fun e => hne (by rw [h1, e])
      · omega
    have hb1 : Below base w w1 := (((Below.refl _ _).alloc hb _).grown hgrow (by simp; omega) (fun k hk => (hown.lt k hk).1))
    have hc1 : w1.cell? ⟨E, 0, none⟩ = some (.slice ao n cap) := hgrow.cell (a := ⟨E, 0, none⟩) (hE' _) (fun e => hne e.symm)
    have hf1 : w1.frozen? ⟨E, 0, none⟩ = false := (World.frozen?_of_block (a := ⟨E, 0, none⟩) (hgrow.block E (by simp; omega) (fun e => hne e.symm))).trans ((World.frozen?_of_block (a := ⟨E, 0, none⟩) (Below.heap_alloc w _ E hE)).trans hf)
    clear hgrow hat hown hE'
    go_wp2
    go_end0
    exact ⟨rfl, g, cap', World.cell?_setCell_same _ _ _ hc1, own_set hown1 hgE _, hb1.setCell hEb _⟩
  · go_enter Try.func12, Try.ntmps12
    go_wp2_with (at_builtin; refine wpList_append_lies _ rfl _ _ 28 rfl base 5 i0 (.int .u8 0) 1 1 Try.underlying28 hi hz0 hz1 hz2 rfl (by omega) (.slice ao n cap) n xs rfl (hown.alloc _) ⟨w.heap.size, 0, none⟩ 1 1 [.int .u8 1] rfl rfl (fun j u h => one_cell _ _ j u h) (one_one _) (by omega) (by unfold maxLen; omega) (by omega) (by simp; omega) (w.heap.size + 1) (by simp) ?_)
    intro g cap' w1 hown1 hgrow hat hlt
    have hgE : E ≠ g := by
      rcases hat with h1 | h1
      · exact fun e => hne (by rw [h1, e])
      · omega
    have hb1 : Below base w w1 := (((Below.refl _ _).alloc hb _).grown hgrow (by simp; omega) (fun k hk => (hown.lt k hk).1))
    have hc1 : w1.cell? ⟨E, 0, none⟩ = some (.slice ao n cap) := hgrow.cell (a := ⟨E, 0, none⟩) (hE' _) (fun e => hne e.symm)
    have hf1 : w1.frozen? ⟨E, 0, none⟩ = false := (World.frozen?_of_block (a := ⟨E, 0, none⟩) (hgrow.block E (by simp; omega) (fun e => hne e.symm))).trans ((World.frozen?_of_block (a := ⟨E, 0, none⟩) (Below.heap_alloc w _ E hE)).trans hf)
    clear hgrow hat hown hE'
    go_wp2
    go_end0
    exact ⟨rfl, g, cap', World.cell?_setCell_same _ _ _ hc1, own_set hown1 hgE _, hb1.setCell hEb _⟩

theorem fz_new (w : World) (c : Array Value) (t : TypeId) : (w.alloc (.cells c t)).frozen? ⟨w.heap.size, 0, none⟩ = false := by
  rw [frozen?_alloc_cells]
  simp [World.frozen?]

set_option maxHeartbeats 1000000 in
theorem ZZEnc_any (x : Bool) (n cap base : Nat) (ao : Option Addr) (xs : List Value) (w : World)
    (hown : w.ownsRow base 5 1 (.slice ao n cap) n xs) (hn : n ≤ 1048576) (hb : base ≤ w.heap.size) :
    Calls Try.prog 10 #[.slice ao n cap, .bool x] w fun e w' => ∃ g cap', e = .returned (.slice (some ⟨g, 0, none⟩) (n + 1) cap') ∧ w'.ownsRow base 5 1 (.slice (some ⟨g, 0, none⟩) (n + 1) cap') (n + 1) (xs ++ [.int .u8 (b2 x)]) ∧ Below base w w' := by
  have hne : (Value.slice ao n cap).ownBlock ≠ some w.heap.size := fun e => by have := (hown.lt _ e).2; omega
  have HO : Hid ((w.alloc (.cells #[.slice ao n cap] 32)).ownsRow base 5 1 (.slice ao n cap) n xs) := hown.alloc _
  clear hown
  go_enter Try.func10, Try.ntmps10
  go_wp2_with fail
  refine (enc_any x w.heap.size n cap base ao xs _ (by go_cell) (fz_new _ _ _) HO.out hne hn (by simp; omega) hb).mono ?_
  rintro e w1 ⟨rfl, g, cap', hc, hown1, hb1⟩
  have hb2 : Below base w w1 := ((Below.refl _ _).alloc hb _).trans hb1
  clear hb1
  go_wp2
  go_ret
  exact ⟨g, cap', rfl, hown1, hb2⟩

end Go.Proofs.Qxb6603309a.Wk
