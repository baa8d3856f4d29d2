/-
  THE WALK of seenMap: the rows laid into a map.
-/
import Derived.Test.Qxb6603249aCopy
import Derived.Test.Qxb6603249aLaw4
import Derived.Maps.Own
import Derived.Maps.RangeWalk
import Derived.Maps.Ext
import Derived.Deep.RegionHeld3
namespace Go.Proofs.Qxb6603249a.Wk
open Go.RowKit
open Go.Maps (Keyed string_keyed)

/-- A LogsEnd as a datum, and as a value. -/
def eD (a b c d v : Int) : DataW Unit := .agg [.lit (.int .u64 a), .lit (.int .u64 b), .lit (.int .u64 c), .lit (.int .u64 d), .lit (.int .u64 v)]
def eV (t : Int × Int × Int × Int × Int) : Value := .agg #[.int .u64 t.1, .int .u64 t.2.1, .int .u64 t.2.2.1, .int .u64 t.2.2.2.1, .int .u64 t.2.2.2.2]
/-- How an element of the map reads. -/
def eR (v : Value) : Option (DataW Unit × List MemPlace) :=
  match v with
  | .agg xs => match xs.toList with
    | [.int .u64 a, .int .u64 b, .int .u64 c, .int .u64 d, .int .u64 e] => some (eD a b c d e, [])
    | _ => none
  | _ => none
theorem eR_mk (a b c d v : Int) : eR (.agg #[.int .u64 a, .int .u64 b, .int .u64 c, .int .u64 d, .int .u64 v]) = some (eD a b c d v, []) := rfl
theorem eR_inv {v : Value} {y : DataW Unit × List MemPlace} (h : eR v = some y) : ∃ t, v = eV t ∧ y = (eD t.1 t.2.1 t.2.2.1 t.2.2.2.1 t.2.2.2.2, []) := by
  unfold eR at h
  split at h
  · rename_i v' xs
    split at h
    · rename_i l a b c d e hx
      cases h
      refine ⟨(a, b, c, d, e), ?_, rfl⟩
      have : xs = #[Value.int .u64 a, Value.int .u64 b, Value.int .u64 c, Value.int .u64 d, Value.int .u64 e] := by
        rw [← Array.toList_inj, hx]
      rw [this]; rfl
    · cases h
  · cases h

theorem law : Keyed Try.prog 9 := string_keyed Try.underlying9
/-- A name as a key. -/
def kL (s : ByteArray) : Lit := .string s.data.toList
/-- The map behind k rows. -/
def dF (f : Nat → Ent) : Nat → DataW Unit
  | 0 => .map []
  | k + 1 => (dF f k).put (kL (f k).nm) (eD (f k).a (f k).b (f k).c (f k).d (f k).v)
theorem key_of {s : ByteArray} (h : s.size ≤ maxLen) : keyOf Try.prog 9 (.string s) = some (kL s) := WideMaps.keyOf_string_mk Try.underlying9 h
theorem run_mm (n : Int) (w : World) : (Instr.makeMap 36 (some (.int .i64 n))).run Try.prog w = .ok (.map (some w.heap.size)) (w.alloc (.map #[] 0)) := by
  simp [Instr.makeMap, run_underlying Try.underlying36, asInt, asIntOf, Result.andThen]

theorem rows_zero {w wr : World} {g n : Nat} {f : Nat → Ent} (hb : Below w.heap.size w wr) (hg : g < w.heap.size) (h : Rows6 w g 0 n f) {i : Nat} (hi : i < n) :
    wr.cell? ⟨g, i * 6, none⟩ = some (.string (f i).nm) ∧ wr.cell? ⟨g, i * 6 + 1, none⟩ = some (.int .u64 (f i).a) ∧ wr.cell? ⟨g, i * 6 + 2, none⟩ = some (.int .u64 (f i).b) ∧
    wr.cell? ⟨g, i * 6 + 3, none⟩ = some (.int .u64 (f i).c) ∧ wr.cell? ⟨g, i * 6 + 4, none⟩ = some (.int .u64 (f i).d) ∧ wr.cell? ⟨g, i * 6 + 5, none⟩ = some (.int .u64 (f i).v) := by
  have := rows_below hb hg h hi
  simp only [Nat.zero_add] at this
  exact this


set_option maxHeartbeats 2000000 in
theorem seen_some (G n : Nat) (f : Nat → Ent) (w : World) (hR : Rows6 w G 0 n f) (hG : G < w.heap.size) (hn : n ≤ 4096) (hnm : ∀ i, i < n → (f i).nm.size ≤ maxLen) :
    Calls Try.prog 14 #[.slice (some ⟨G, 0, none⟩) n n] w fun e w' => e = .returned (.map (some w.heap.size)) ∧ w'.ownsMap Try.prog 9 eR w.heap.size n (dF f n) ∧ Below w.heap.size w w' := by
  have hne := fun (wx : World) => run_neq_slice_nil_any (P := Try.prog) wx 32 43 (some ⟨G, 0, none⟩) n n 0 0 Try.underlying32
  have hmm := run_mm
  go_enter Try.func14, Try.ntmps14
  go_wp2
  go_loopg [4] n (fun m xi wr => ∃ k : Nat, k + m = n ∧ xi = .int .i64 k ∧ wr.ownsMap Try.prog 9 eR w.heap.size k (dF f k) ∧ Below w.heap.size w wr)
  case atStart => exact ⟨0, by omega, rfl, World.ownsMap_made _ _ _ _, (Below.refl _ _).alloc (Nat.le_refl _) _⟩
  case round =>
    obtain ⟨k, hk, rfl, hown, hbel⟩ := hrel
    by_cases hlt : k < n
    · obtain ⟨r0, r1, r2, r3, r4, r5⟩ := rows_zero hbel hG hR hlt
      have hkey := key_of (hnm k hlt)
      go_wp2
      have hcell : ∀ j u, #[Value.string (f k).nm, Value.int .u64 (f k).a, Value.int .u64 (f k).b, Value.int .u64 (f k).c, Value.int .u64 (f k).d, Value.int .u64 (f k).v][j]? = some u → (wr.alloc (.cells #[Value.string (f k).nm, Value.int .u64 (f k).a, Value.int .u64 (f k).b, Value.int .u64 (f k).c, Value.int .u64 (f k).d, Value.int .u64 (f k).v] 43)).cell? ⟨wr.heap.size, j, none⟩ = some u := fun j u h => by
        rw [← h]; exact World.cell?_alloc_mark wr _ 43 (0, 0) j
      have q0 := hcell 0 _ rfl
      have q1 := hcell 1 _ rfl
      have q2 := hcell 2 _ rfl
      have q3 := hcell 3 _ rfl
      have q4 := hcell 4 _ rfl
      have q5 := hcell 5 _ rfl
      have hown1 := hown.alloc (.cells #[Value.string (f k).nm, Value.int .u64 (f k).a, Value.int .u64 (f k).b, Value.int .u64 (f k).c, Value.int .u64 (f k).d, Value.int .u64 (f k).v] 43)
      have hbel1 := hbel.alloc hbel.size (.cells #[Value.string (f k).nm, Value.int .u64 (f k).a, Value.int .u64 (f k).b, Value.int .u64 (f k).c, Value.int .u64 (f k).d, Value.int .u64 (f k).v] 43)
      have hsz : wr.heap.size < (wr.alloc (.cells #[Value.string (f k).nm, Value.int .u64 (f k).a, Value.int .u64 (f k).b, Value.int .u64 (f k).c, Value.int .u64 (f k).d, Value.int .u64 (f k).v] 43)).heap.size := by simp
      have hBb : w.heap.size < wr.heap.size := hown.lt
      clear hcell hown hbel r0 r1 r2 r3 r4 r5
      generalize wr.alloc (.cells #[Value.string (f k).nm, Value.int .u64 (f k).a, Value.int .u64 (f k).b, Value.int .u64 (f k).c, Value.int .u64 (f k).d, Value.int .u64 (f k).v] 43) = W0 at *
      generalize wr.heap.size = B at *
      obtain ⟨w2, hrun, hown2, hg2⟩ := World.ownsMap.update (w := (W0.alloc (.cells #[.int .u64 (f k).a, .int .u64 (f k).b, .int .u64 (f k).c, .int .u64 (f k).d, .int .u64 (f k).v] 26)).drew) (hown1.alloc _) law Try.underlying36 (by unfold maxLen; omega) hkey (eR_mk (f k).a (f k).b (f k).c (f k).d (f k).v)
      have hs := fun (j : Nat) (u : Value) (h : W0.cell? ⟨B, j, none⟩ = some u) => (hg2.cell (a := ⟨B, j, none⟩) (v := u) (by rw [World.cell?_drew, World.cell?_alloc_lt _ _ _ hsz]; exact h) (by simp; omega))
      have s0 := hs _ _ q0
      have s1 := hs _ _ q1
      have s2 := hs _ _ q2
      have s3 := hs _ _ q3
      have s4 := hs _ _ q4
      have s5 := hs _ _ q5
      have hbel2 : Below w.heap.size w w2 := (hbel1.alloc hbel1.size _).drew.grown hg2 (by have := hbel1.size; simp; omega) (fun k hk => by cases hk; exact Nat.le_refl _)
      clear hs hg2
      go_region_held3 (fun w' => w'.cell? ⟨B, 0, none⟩ = some (.string (f k).nm) ∧ w'.cell? ⟨B, 1, none⟩ = some (.int .u64 (f k).a) ∧ w'.cell? ⟨B, 2, none⟩ = some (.int .u64 (f k).b) ∧ w'.cell? ⟨B, 3, none⟩ = some (.int .u64 (f k).c) ∧ w'.cell? ⟨B, 4, none⟩ = some (.int .u64 (f k).d) ∧ w'.cell? ⟨B, 5, none⟩ = some (.int .u64 (f k).v)) (go_keep) (first | (go_at_call 8; refine (makeEnd_any _ _ _ _ _ _).mono ?_; rintro e w' ⟨rfl, rfl⟩))
      all_goals
        clear q0 q1 q2 q3 q4 q5 s0 s1 s2 s3 s4 s5 hrun hown1 hbel1
        go_wp2
        go_roundg (n - (k + 1))
        case measure => omega
        case rel => exact ⟨k + 1, by omega, by go_num, hown2, hbel2⟩
    · go_wp2
      go_ret
      have e : k = n := by omega
      subst e
      exact ⟨rfl, hown, hbel⟩

set_option maxHeartbeats 400000 in
theorem seen_nil (w : World) :
    Calls Try.prog 14 #[.slice none 0 0] w fun e w' => e = .returned (.map none) ∧ w = w' := by
  have hne := fun (wx : World) => run_neq_slice_nil_any (P := Try.prog) wx 32 43 none 0 0 0 0 Try.underlying32
  go_enter Try.func14, Try.ntmps14
  go_wp2
  go_rounds 1
  go_ret
  exact ⟨rfl, rfl⟩

end Go.Proofs.Qxb6603249a.Wk
