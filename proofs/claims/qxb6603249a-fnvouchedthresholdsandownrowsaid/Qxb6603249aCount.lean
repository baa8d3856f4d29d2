/-
  PLAIN: how many of the others vouch for a candidate, counted over a map's entries in whatever order they come.
-/
import Derived.Test.Qxb6603249aWithout
namespace Go.Proofs.Qxb6603249a.Wk
open Go.RowKit

/-- 'before', of a datum. -/
def befD (a b c d : Int) (y : DataW Unit) : Bool :=
  match y with
  | .agg [.lit (.int .u64 a'), .lit (.int .u64 b'), .lit (.int .u64 c'), .lit (.int .u64 d'), _] => bef a b c d a' b' c' d'
  | _ => false
theorem befD_mk (a b c d a' b' c' d' v' : Int) : befD a b c d (eD a' b' c' d' v') = bef a b c d a' b' c' d' := rfl
/-- Does this entry vouch for the candidate? -/
def gd (a b c d : Int) (N : ByteArray) (p : Lit × DataW Unit) : Bool := !p.1.sameKey (kL N) && !befD a b c d p.2
theorem same_name (x N : ByteArray) : (kL x).sameKey (kL N) = (x.toList == N.toList) := by
  unfold kL
  rw [ByteArray.toList_eq, ByteArray.toList_eq]
  rfl
theorem gd_mk (a b c d a' b' c' d' v' : Int) (x N : ByteArray) : gd a b c d N (kL x, eD a' b' c' d' v') = (!(x.toList == N.toList) && !bef a b c d a' b' c' d') := by
  unfold gd
  rw [same_name]
  rfl
theorem kL_key (s : ByteArray) : WideAt.IsKeyLit (kL s) := trivial

abbrev Es : Type := List (Lit × DataW Unit)
/-- How many entries that are no longer to come vouch. -/
def cl (es : Es) (left : Lit → Bool) (g : Lit × DataW Unit → Bool) : Nat := (es.filter fun p => !left p.1 && g p).length
theorem cl_le (es : Es) (left : Lit → Bool) (g : Lit × DataW Unit → Bool) : cl es left g ≤ es.length := List.length_filter_le _ _
theorem cl_start (es : Es) (g : Lit × DataW Unit → Bool) (hk : ∀ p ∈ es, WideAt.IsKeyLit p.1) : cl es (Maps.has (.map es)) g = 0 := by
  unfold cl
  rw [List.length_eq_zero_iff, List.filter_eq_nil_iff]
  intro p hp
  have : Maps.has (.map es) p.1 = true := by
    rw [Maps.has_eq, List.any_eq_true]
    exact ⟨p, hp, WideAt.sameKey_self (hk p hp)⟩
  rw [this]; simp
theorem cl_same (es : Es) (left : Lit → Bool) (g : Lit × DataW Unit → Bool) (kl : Lit) (h : ∀ p ∈ es, p.1 ≠ kl) : cl es (fun z => left z && !z.sameKey kl) g = cl es left g := by
  unfold cl
  rw [List.filter_congr]
  intro p hp
  have : p.1.sameKey kl = false := Maps.sameKey_ne (h p hp)
  show (!(left p.1 && !p.1.sameKey kl) && g p) = (!left p.1 && g p)
  rw [this]; simp
theorem cl_step (left : Lit → Bool) (g : Lit × DataW Unit → Bool) (kl : Lit) (y : DataW Unit) (hkl : WideAt.IsKeyLit kl) (hl : left kl = true) : ∀ (es : Es), es.Pairwise (fun p q => p.1 ≠ q.1) → (kl, y) ∈ es →
    cl es (fun z => left z && !z.sameKey kl) g = cl es left g + if g (kl, y) = true then 1 else 0
  | [], _, hm => absurd hm (by simp)
  | q :: r, hp, hm => by
    obtain ⟨h1, h2⟩ := List.pairwise_cons.1 hp
    rcases List.mem_cons.1 hm with rfl | hm'
    · have hr := cl_same r left g kl (fun p hp' => (h1 p hp').symm)
      unfold cl at hr ⊢
      rw [List.filter_cons, List.filter_cons]
      have e1 : (!(left kl && !kl.sameKey kl) && g (kl, y)) = g (kl, y) := by rw [WideAt.sameKey_self hkl]; simp
      have e2 : (!left kl && g (kl, y)) = false := by rw [hl]; simp
      rw [show (!(left (kl, y).1 && !(kl, y).1.sameKey kl) && g (kl, y)) = g (kl, y) from e1, show (!left (kl, y).1 && g (kl, y)) = false from e2]
      cases g (kl, y)
      · simpa using hr
      · simpa using hr
    · have hq : q.1 ≠ kl := h1 _ hm'
      have ih := cl_step left g kl y hkl hl r h2 hm'
      unfold cl at ih ⊢
      rw [List.filter_cons, List.filter_cons]
      have e1 : q.1.sameKey kl = false := Maps.sameKey_ne hq
      rw [show (!(left q.1 && !q.1.sameKey kl) && g q) = (!left q.1 && g q) from by rw [e1]; simp]
      cases (!left q.1 && g q)
      · simpa using ih
      · simp only [if_true, List.length_cons, ih]; omega
theorem mem_of_at (es : Es) (kl : Lit) (y : DataW Unit) (h : ∀ z, (DataW.map es).atKey kl z = y) : (kl, y) ∈ es := by
  have hh := Maps.has_true_of_atKey h
  rw [Maps.has_eq, List.any_eq_true] at hh
  obtain ⟨p, hp, hpk⟩ := hh
  have hs : (es.find? (fun p => p.1.sameKey kl)).isSome = true := List.find?_isSome.2 ⟨p, hp, hpk⟩
  obtain ⟨q, hq⟩ := Option.isSome_iff_exists.1 hs
  have e : q.2 = y := by have := h .nil; simpa [DataW.atKey, hq] using this
  have e1 : q.1 = kl := WideAt.sameKey_eq (by simpa using List.find?_some hq)
  have := List.mem_of_find?_eq_some hq
  rw [← e, ← e1]
  exact this
theorem cl_end (es : Es) (left : Lit → Bool) (g : Lit × DataW Unit → Bool) (h : ∀ kl, left kl = false) : cl es left g = (es.filter g).length := by
  unfold cl
  rw [List.filter_congr]
  intro p _
  rw [h]; simp

/-- How many vouch, of a whole map. -/
def vc (a b c d : Int) (N : ByteArray) : DataW Unit → Nat
  | .map es => (es.filter (gd a b c d N)).length
  | _ => 0
theorem vc_le (a b c d : Int) (N : ByteArray) {w : World} {bl n : Nat} {D : DataW Unit} (h : w.ownsMap Try.prog 9 eR bl n D) : vc a b c d N D ≤ n := by
  obtain ⟨es, clock, _, _, hs, rfl⟩ := h
  have h1 : vc a b c d N (.map ((es.toList.map (WideElems.rg Try.prog 9 eR)).foldr DataW.insert [])) ≤ ((es.toList.map (WideElems.rg Try.prog 9 eR)).foldr DataW.insert []).length := List.length_filter_le _ _
  rw [length_read] at h1
  omega
theorem size_le {w : World} {bl n : Nat} {es : Es} (h : w.ownsMap Try.prog 9 eR bl n (.map es)) : es.length ≤ n := by
  obtain ⟨es', clock, _, _, hs, e⟩ := h
  have e2 : es = (es'.toList.map (WideElems.rg Try.prog 9 eR)).foldr DataW.insert [] := by cases e; rfl
  rw [e2, length_read]
  exact hs

/-! ### The candidate's own rows change nothing -/
theorem put_perm (es : Es) (k : Lit) (y : DataW Unit) : (DataW.insert (k, y) (es.filter fun p => !p.1.sameKey k)).Perm ((k, y) :: es.filter fun p => !p.1.sameKey k) := WideShapes.insert_perm _ _
theorem both (f : Nat → Ent) (S : ByteArray) : ∀ k, ∃ e1 e2 : Es, dF f k = .map e1 ∧ dW f S k = .map e2 ∧ (e1.filter fun p => !p.1.sameKey (kL S)).Perm e2
  | 0 => ⟨[], [], rfl, rfl, List.Perm.nil⟩
  | k + 1 => by
    obtain ⟨e1, e2, h1, h2, h3⟩ := both f S k
    have g1 : dF f (k + 1) = .map (DataW.insert (kL (f k).nm, eD (f k).a (f k).b (f k).c (f k).d (f k).v) (e1.filter fun p => !p.1.sameKey (kL (f k).nm))) := by rw [dF, h1]; rfl
    have p1 := (put_perm e1 (kL (f k).nm) (eD (f k).a (f k).b (f k).c (f k).d (f k).v)).filter (fun p => !p.1.sameKey (kL S))
    cases hs : ((f k).nm.toList == S.toList)
    · have g2 : dW f S (k + 1) = .map (DataW.insert (kL (f k).nm, eD (f k).a (f k).b (f k).c (f k).d (f k).v) (e2.filter fun p => !p.1.sameKey (kL (f k).nm))) := by
        rw [dW, if_neg (by rw [hs]; simp), h2]; rfl
      refine ⟨_, _, g1, g2, p1.trans ?_⟩
      rw [List.filter_cons, if_pos (by rw [show (kL (f k).nm, eD (f k).a (f k).b (f k).c (f k).d (f k).v).1.sameKey (kL S) = ((f k).nm.toList == S.toList) from same_name _ _, hs]; rfl)]
      refine List.Perm.trans ?_ (put_perm e2 (kL (f k).nm) (eD (f k).a (f k).b (f k).c (f k).d (f k).v)).symm
      refine List.Perm.cons _ ?_
      rw [List.filter_filter]
      have h4 := h3.filter (fun p => !p.1.sameKey (kL (f k).nm))
      rw [List.filter_filter] at h4
      refine List.Perm.trans ?_ h4
      rw [List.filter_congr]
      intro p _
      exact Bool.and_comm _ _
    · have g2 : dW f S (k + 1) = .map e2 := by rw [dW, if_pos hs, h2]
      refine ⟨_, _, g1, g2, p1.trans ?_⟩
      have hk : kL (f k).nm = kL S := WideAt.sameKey_eq (by rw [same_name]; exact hs)
      rw [List.filter_cons, if_neg (by rw [show (kL (f k).nm, eD (f k).a (f k).b (f k).c (f k).d (f k).v).1.sameKey (kL S) = ((f k).nm.toList == S.toList) from same_name _ _, hs]; simp)]
      rw [hk, List.filter_filter]
      refine List.Perm.trans ?_ h3
      rw [List.filter_congr]
      intro p _
      exact Bool.and_self _
theorem vc_same (a b c d : Int) (f : Nat → Ent) (S : ByteArray) (k : Nat) : vc a b c d S (dW f S k) = vc a b c d S (dF f k) := by
  obtain ⟨e1, e2, h1, h2, h3⟩ := both f S k
  rw [h1, h2]
  show (e2.filter (gd a b c d S)).length = (e1.filter (gd a b c d S)).length
  have h4 := (h3.filter (gd a b c d S)).length_eq
  rw [← h4, List.filter_filter]
  congr 1
  apply List.filter_congr
  intro p _
  unfold gd
  cases p.1.sameKey (kL S) <;> simp

end Go.Proofs.Qxb6603249a.Wk
