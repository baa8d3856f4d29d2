/-
  THE WALK of vouched: it ranges over the map, in whatever order.
-/
import Derived.Test.Qxb6603249aCount
namespace Go.Proofs.Qxb6603249a.Wk
open Go.RowKit
open Go.Maps (Keyed string_keyed)

theorem grown_of {w w' : World} (h : Below w.heap.size w w') : w.grownBy w' none := ⟨h.os, h.tape, h.output, h.size, fun k hk _ => h.block k hk⟩
theorem invK (key : Value) (kl : Lit) (h : keyOf Try.prog 9 key = some kl) : ∃ x : ByteArray, key = .string x := by
  cases key <;> simp [keyOf, Try.underlying9, mapKey] at h
  exact ⟨_, rfl⟩
theorem invV (v : Value) (y : DataW Unit × List MemPlace) (h : eR v = some y) : ∃ t, v = eV t := by
  obtain ⟨t, ht, _⟩ := eR_inv h
  exact ⟨t, ht⟩
theorem key_is {x : ByteArray} {kl : Lit} (h : keyOf Try.prog 9 (.string x) = some kl) : kl = kL x := by
  simp [keyOf, Try.underlying9, mapKey] at h
  exact h.2.symm

theorem box1 {w w2 : World} {x0 x1 x2 x3 x4 : Value} (h : Below (w.heap.size + 1) (w.alloc (.cells #[x0, x1, x2, x3, x4] 26)) w2) :
    w2.cell? ⟨w.heap.size, 0, none⟩ = some x0 ∧ w2.cell? ⟨w.heap.size, 1, none⟩ = some x1 ∧ w2.cell? ⟨w.heap.size, 2, none⟩ = some x2 ∧ w2.cell? ⟨w.heap.size, 3, none⟩ = some x3 ∧ w2.cell? ⟨w.heap.size, 4, none⟩ = some x4 := by
  have e := fun j => h.cell (p := ⟨w.heap.size, j, none⟩) (by simp)
  refine ⟨?_, ?_, ?_, ?_, ?_⟩
  all_goals (rw [e]; go_cell)

set_option maxRecDepth 100000 in
set_option maxHeartbeats 2000000 in
theorem vouched_some (a b c d v q : Int) (N : ByteArray) (bl n : Nat) (D : DataW Unit) (w : World) (hown : w.ownsMap Try.prog 9 eR bl n D) (hn : n ≤ 4096) :
    Calls Try.prog 19 #[.agg #[.int .u64 a, .int .u64 b, .int .u64 c, .int .u64 d, .int .u64 v], .string N, .map (some bl), .int .i64 q] w fun e w' => e = .returned (.bool (decide (q ≤ 1 + (vc a b c d N D : Int)))) ∧ Below w.heap.size w w' := by
  obtain ⟨es, rfl, hpw, hks⟩ := hown.entries law
  have hlen := size_le hown
  have hbl := hown.lt
  go_enter Try.func19, Try.ntmps19
  go_wp2_with (at_range; refine wpList_range_own _ rfl _ 36 rfl 9 26 law Try.underlying36 eR bl n _ rfl (hown.alloc _) ?_)
  intro w0 hrg0 hg0 hs0
  have hbx : Below (w.heap.size + 1) (w.alloc (.cells #[.int .u64 a, .int .u64 b, .int .u64 c, .int .u64 d, .int .u64 v] 26)) w0 := (Below.refl _ _).grown hg0 (by simp) (fun k hk => by cases hk)
  have hz0 : w.heap.size + 1 < w0.heap.size := by omega
  have hcs : Hid (cl es (Maps.has (.map es)) (gd a b c d N) = 0) := cl_start es _ hks
  clear hg0 hs0 hown
  go_wp2
  go_loopg [9] (Maps.size (.map es)) (fun cnt xn wr => ∃ (left : Lit → Bool) (m : Nat), xn = .int .i64 (1 + (m : Int)) ∧ m ≤ n ∧ Hid (m = cl es left (gd a b c d N)) ∧ wr.ranges Try.prog 9 eR bl (w.heap.size + 1) n (.map es) left cnt ∧ Below (w.heap.size + 1) (w.alloc (.cells #[.int .u64 a, .int .u64 b, .int .u64 c, .int .u64 d, .int .u64 v] 26)) wr)
  case atStart => exact ⟨_, 0, rfl, by omega, hcs.out.symm, hrg0, hbx⟩
  case round =>
    clear hrg0 hbx hz0 hcs
    obtain ⟨left, m, rfl, hmn, HM, hrg, hbx⟩ := hrel
    go_wp2_with (at_next; refine wpList_next_ranges _ rfl _ rfl 9 law eR Value.string eV invK invV bl (w.heap.size + 1) n _ _ _ rfl hrg ?_ ?_)
    · intro _ hl0
      have HE : Hid (vc a b c d N (.map es) = m) := by rw [Hid, HM.out, cl_end es left _ hl0]; rfl
      clear hl0
      go_wp2
      go_ret
      exact ⟨ret_bool (by rw [HE.out]), (((Below.refl _ _).alloc (Nat.le_refl _) _).trans (hbx.mono (by omega)))⟩
    · intro x t1 t2 t3 t4 t5 kl yd yp w2 cnt2 hkey hlk hv hat hrg2 hlt hg2 hs2 hen
      obtain rfl := key_is hkey
      have hyd : yd = eD t1 t2 t3 t4 t5 := by
        have e : some (eD t1 t2 t3 t4 t5, []) = some (yd, yp) := hv
        cases e; rfl
      subst hyd
      have hst := cl_step left (gd a b c d N) (kL x) _ (kL_key x) hlk es hpw (mem_of_at es _ _ hat)
      rw [gd_mk, ← HM.out] at hst
      have hle := cl_le es (fun z => left z && !z.sameKey (kL x)) (gd a b c d N)
      have hbx2 : Below (w.heap.size + 1) (w.alloc (.cells #[.int .u64 a, .int .u64 b, .int .u64 c, .int .u64 d, .int .u64 v] 26)) w2 := hbx.grown hg2 (by have := hbx.size; simp at this; omega) (fun k hk => by cases hk; exact Nat.le_refl _)
      have hlt2 := hrg2.lt
      clear hkey hlk hv hat hg2 hs2 hrg hbx
      obtain ⟨m', HMM⟩ : ∃ m', Hid (cl es (fun z => left z && !z.sameKey (kL x)) (gd a b c d N) = m') := ⟨_, rfl⟩
      rw [HMM.out] at hst hle
      simp only [eV] at hen ⊢
      obtain ⟨y0, y1, y2, y3, y4⟩ := box1 hbx2
      have hlw : w.heap.size < w2.heap.size := by omega
      have hz2 : w.heap.size + 1 ≤ w2.heap.size := by omega
      cases hx : (x.toList == N.toList)
      · cases hbf : bef a b c d t1 t2 t3 t4
        · have HS : Hid (m' = m + 1) := by rw [hx, hbf] at hst; rw [Hid]; simpa using hst
          have hm' : m + 1 ≤ n := by have := HS.out; omega
          clear hst hle
          go_wp2_with fail
          refine (before_any _ _ _ _ _ _ _ _ _ _ _).mono ?_
          rintro e w3 ⟨rfl, hb3⟩
          rw [hbf]
          have hrg3 := (hrg2.alloc _).kept (grown_of hb3) (by simp) (by simp)
          have hbx3 := (hbx2.alloc hz2 _).trans (hb3.mono (by simp; omega))
          clear hb3 hrg2 hbx2 hen y0 y1 y2 y3 y4
          go_wp2
          go_roundg cnt2
          case measure => exact hlt
          case rel => exact ⟨_, m + 1, by go_num, hm', by rw [Hid, HMM.out, HS.out], hrg3, hbx3⟩
        · have HS : Hid (m' = m) := by rw [hx, hbf] at hst; rw [Hid]; simpa using hst
          clear hst hle
          go_wp2_with fail
          refine (before_any _ _ _ _ _ _ _ _ _ _ _).mono ?_
          rintro e w3 ⟨rfl, hb3⟩
          rw [hbf]
          have hrg3 := (hrg2.alloc _).kept (grown_of hb3) (by simp) (by simp)
          have hbx3 := (hbx2.alloc hz2 _).trans (hb3.mono (by simp; omega))
          clear hb3 hrg2 hbx2 hen y0 y1 y2 y3 y4
          go_wp2
          go_roundg cnt2
          case measure => exact hlt
          case rel => exact ⟨_, m, rfl, hmn, by rw [Hid, HMM.out, HS.out], hrg3, hbx3⟩
      · have HS : Hid (m' = m) := by rw [hx] at hst; rw [Hid]; simpa using hst
        clear hst hle y0 y1 y2 y3 y4
        go_wp2
        go_roundg cnt2
        case measure => exact hlt
        case rel => exact ⟨_, m, rfl, hmn, by rw [Hid, HMM.out, HS.out], hrg2.alloc _, hbx2.alloc hz2 _⟩

set_option maxRecDepth 100000 in
set_option maxHeartbeats 1000000 in
theorem vouched_nil (a b c d v q : Int) (N : ByteArray) (w : World) :
    Calls Try.prog 19 #[.agg #[.int .u64 a, .int .u64 b, .int .u64 c, .int .u64 d, .int .u64 v], .string N, .map none, .int .i64 q] w fun e w' => e = .returned (.bool (decide (q ≤ 1))) ∧ Below w.heap.size w w' := by
  have hrr := fun (wx : World) => run_range_nilMap (P := Try.prog) wx 36 9 26 Try.underlying36
  have hrn : ∀ (o : Obj) (ty : TypeId), (Instr.next (.pointer (some ⟨w.heap.size + 1, 0, none⟩)) false ty).run Try.prog ((w.alloc o).alloc (.mapIter none 0 #[] 0)) = .ok (.tuple #[.bool false]) ((w.alloc o).alloc (.mapIter none 0 #[] 0)) := fun o ty => by
    have h := run_next_nilMap (P := Try.prog) (w.alloc o) ty 0 0 #[]
    rw [World.size_alloc] at h
    exact h
  go_enter Try.func19, Try.ntmps19
  go_wp2
  go_rounds 1
  go_ret
  exact ⟨rfl, by go_grown⟩

/-- How many vouch, of a map that may be nil. -/
def vm (a b c d : Int) (N : ByteArray) : Option (DataW Unit) → Nat
  | some D => vc a b c d N D
  | none => 0
/-- The map value m holds what D says, at most n entries. -/
def Mp (w : World) (m : Option Nat) (n : Nat) (D : Option (DataW Unit)) : Prop :=
  (m = none ∧ D = none) ∨ ∃ b E, m = some b ∧ D = some E ∧ w.ownsMap Try.prog 9 eR b n E
theorem Mp.below {w w' : World} {m : Option Nat} {n : Nat} {D : Option (DataW Unit)} (h : Mp w m n D) (hb : Below w.heap.size w w') : Mp w' m n D := by
  rcases h with h | ⟨b, E, h1, h2, h3⟩
  · exact Or.inl h
  · exact Or.inr ⟨b, E, h1, h2, h3.kept (grown_of hb) (by simp)⟩
theorem vm_le (a b c d : Int) (N : ByteArray) {w : World} {m : Option Nat} {n : Nat} {D : Option (DataW Unit)} (h : Mp w m n D) : vm a b c d N D ≤ n := by
  rcases h with ⟨_, rfl⟩ | ⟨_, E, _, rfl, h3⟩
  · exact Nat.zero_le _
  · exact vc_le a b c d N h3

theorem vouched_any (a b c d v q : Int) (N : ByteArray) (m : Option Nat) (n : Nat) (D : Option (DataW Unit)) (w : World) (h : Mp w m n D) (hn : n ≤ 4096) :
    Calls Try.prog 19 #[.agg #[.int .u64 a, .int .u64 b, .int .u64 c, .int .u64 d, .int .u64 v], .string N, .map m, .int .i64 q] w fun e w' => e = .returned (.bool (decide (q ≤ 1 + (vm a b c d N D : Int)))) ∧ Below w.heap.size w w' := by
  rcases h with ⟨rfl, rfl⟩ | ⟨b', E, rfl, rfl, h3⟩
  · refine (vouched_nil a b c d v q N w).mono fun e w' ⟨h1, h2⟩ => ⟨h1.trans (ret_bool (decide_eq_decide.2 ?_)), h2⟩
    show q ≤ 1 ↔ q ≤ 1 + ((0 : Nat) : Int)
    omega
  · exact vouched_some a b c d v q N b' n E w h3 hn

set_option maxHeartbeats 1000000 in
theorem ZZVouched_any (a b c d v q : Int) (N : ByteArray) (m : Option Nat) (n : Nat) (D : Option (DataW Unit)) (w : World) (h : Mp w m n D) (hn : n ≤ 4096) :
    Calls Try.prog 15 #[.agg #[.int .u64 a, .int .u64 b, .int .u64 c, .int .u64 d, .int .u64 v], .string N, .map m, .int .i64 q] w fun e w' => e = .returned (.bool (decide (q ≤ 1 + (vm a b c d N D : Int)))) ∧ Below w.heap.size w w' := by
  have h1 := h.below ((Below.refl _ w).alloc (Nat.le_refl _) (.cells #[.int .u64 a, .int .u64 b, .int .u64 c, .int .u64 d, .int .u64 v] 26))
  have H1 : Hid (Mp (w.alloc (.cells #[.int .u64 a, .int .u64 b, .int .u64 c, .int .u64 d, .int .u64 v] 26)) m n D) := h1
  clear h1 h
  go_enter Try.func15, Try.ntmps15
  go_wp2_with fail
  refine (vouched_any a b c d v q N m n D _ H1.out hn).mono ?_
  rintro e w' ⟨rfl, hb⟩
  go_wp2
  go_ret
  exact ⟨rfl, ((Below.refl _ _).alloc (Nat.le_refl _) _).trans (hb.mono (by simp))⟩

end Go.Proofs.Qxb6603249a.Wk
