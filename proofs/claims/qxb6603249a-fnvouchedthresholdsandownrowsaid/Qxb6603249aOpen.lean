/-
  THE ROWS THAT CAME IN, OPENED: out of their reading as data, the cells that the walk asks for.
-/
import Derived.Test.Qxb6603249aLaw7
import Derived.Deep.Slices
import Derived.ProofKit
namespace Go.Proofs.Qxb6603249a.Wk
open Go.RowKit Go.Deep

def noEnt : Ent := ⟨ByteArray.empty, 0, 0, 0, 0, 0⟩
theorem cells43 : Try.prog.cellsOf 43 = 6 := by kernel_rfl
theorem cells9 : Try.prog.cellsOf 9 = 1 := by kernel_rfl
theorem cells22 : Try.prog.cellsOf 22 = 1 := by kernel_rfl

theorem open_rows {H : Type} {enc : TypeId × Value → H} {W : World} {a0 : Option Addr} {len cap fuel : Nat} {x : DataW H × List MemPlace} (h : DataW.trod enc Try.prog W 0 (fun _ => true) true fuel 32 [.slice a0 len cap] = some x) :
    ∃ f, Ein W a0 len cap f ∧ len ≤ maxLen ∧ ∀ i, i < len → (f i).nm.size ≤ maxLen := by
  rcases open_slice Try.underlying32 h with ⟨hcs, _⟩ | ⟨a, len', cap', m, n, D, Pl, hcs, _, hl, hm, hmm, _, hx⟩
  · simp at hcs
    obtain ⟨rfl, rfl, rfl⟩ := hcs
    exact ⟨fun _ => noEnt, Or.inl ⟨rfl, rfl, rfl⟩, Nat.zero_le _, fun i hi => absurd hi (by omega)⟩
  simp at hcs
  obtain ⟨rfl, rfl, rfl⟩ := hcs
  simp at hmm
  subst hmm
  have each : ∀ i, i < m → ∃ q : Ent, W.cell? (a.add (i * 6)) = some (.string q.nm) ∧ W.cell? (a.add (i * 6 + 1)) = some (.int .u64 q.a) ∧ W.cell? (a.add (i * 6 + 2)) = some (.int .u64 q.b) ∧
      W.cell? (a.add (i * 6 + 3)) = some (.int .u64 q.c) ∧ W.cell? (a.add (i * 6 + 4)) = some (.int .u64 q.d) ∧ W.cell? (a.add (i * 6 + 5)) = some (.int .u64 q.v) ∧ q.nm.size ≤ maxLen := by
    intro i hi
    obtain ⟨cs', h1, h2⟩ := hx i hi
    rw [cells43] at h1
    obtain ⟨_, hlen, hcell⟩ := World.cells?_some h1
    obtain ⟨xs, k, hk, hxy, _, hxl, hf⟩ := DataW.trod_struct Try.underlying43 h2
    match xs, hxl, cs', hlen with
    | [y0, y1, y2, y3, y4, y5], _, [c0, c1, c2, c3, c4, c5], _ =>
      have g0 := hf 0 _ rfl
      have g1 := hf 1 _ rfl
      have g2 := hf 2 _ rfl
      have g3 := hf 3 _ rfl
      have g4 := hf 4 _ rfl
      have g5 := hf 5 _ rfl
      simp [cells9, cells22] at g0 g1 g2 g3 g4 g5
      obtain ⟨s, e0, _, hs⟩ := DataW.trod_string Try.underlying9 g0
      obtain ⟨n1, e1, _⟩ := DataW.trod_int Try.underlying22 g1
      obtain ⟨n2, e2, _⟩ := DataW.trod_int Try.underlying22 g2
      obtain ⟨n3, e3, _⟩ := DataW.trod_int Try.underlying22 g3
      obtain ⟨n4, e4, _⟩ := DataW.trod_int Try.underlying22 g4
      obtain ⟨n5, e5, _⟩ := DataW.trod_int Try.underlying22 g5
      simp at e0 e1 e2 e3 e4 e5
      subst e0 e1 e2 e3 e4 e5
      have k0 := hcell 0 (by omega)
      have k1 := hcell 1 (by omega)
      have k2 := hcell 2 (by omega)
      have k3 := hcell 3 (by omega)
      have k4 := hcell 4 (by omega)
      have k5 := hcell 5 (by omega)
      rw [add_add] at k0 k1 k2 k3 k4 k5
      exact ⟨⟨s, n1, n2, n3, n4, n5⟩, by simpa using k0, by simpa using k1, by simpa using k2, by simpa using k3, by simpa using k4, by simpa using k5, hs⟩
  have : Inhabited Ent := ⟨noEnt⟩
  obtain ⟨f, hq⟩ := choose_lt each
  refine ⟨f, Or.inr ?_, by omega, fun i hi => (hq i (by omega)).2.2.2.2.2.2⟩
  by_cases h0 : len = 0
  · exact Or.inl ⟨a, rfl, h0⟩
  · right
    obtain ⟨b, off, spot⟩ := a
    have hspot : spot = none := by simpa [Addr.add] using World.cell?_spot (hq 0 (by omega)).1
    subst hspot
    have e : ∀ j, (⟨b, off, none⟩ : Addr).add j = ⟨b, off + j, none⟩ := fun j => WideShapes.add_plain b off j
    refine ⟨b, off, rfl, by omega, World.block_lt_of_cell? W ⟨b, off, none⟩ (by have := (hq 0 (by omega)).1; rw [e] at this; simpa using this), fun i hi => ?_⟩
    have := hq i (by omega)
    simp only [e, ← Nat.add_assoc] at this
    exact ⟨this.1, this.2.1, this.2.2.1, this.2.2.2.1, this.2.2.2.2.1, this.2.2.2.2.2.1⟩

end Go.Proofs.Qxb6603249a.Wk
