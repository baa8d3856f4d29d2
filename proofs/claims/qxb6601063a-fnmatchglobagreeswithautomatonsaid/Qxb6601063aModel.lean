/-
  THE WALK of zzGlobModel: the automaton answers just whether the pattern matches the name ('GM').
-/
import Derived.Test.Qxb6601063aWalks3
import Derived.Test.Qxb6601063aAuto
namespace Go.Proofs.Qxb6601063a.Wk
open Go.RowKit Go.PlainAid Pl

theorem info3 : (Try.prog.info? 3).map (fun i => (i.zero, i.size, i.bytes)) = some (some (.int .i64 0), 1, 8) := by kernel_rfl
theorem info4 : (Try.prog.info? 4).map (fun i => (i.zero, i.size, i.bytes)) = some (some (.bool false), 1, 1) := by kernel_rfl

theorem one_cell_of (w : World) (e : TypeId) (a : Value) (j : Nat) (u : Value) (h : [a][j]? = some u) : (w.alloc (.cells #[a] e)).cell? ((⟨w.heap.size, 0, none⟩ : Addr).add j) = some u := by
  match j, h with
  | 0, h => simp at h; subst h; simp [Addr.add]
theorem one_int (x : Int) (u : Value) (h : u ∈ [Value.int .i64 x]) : u.oneCell' = true := by
  simp at h
  subst h; rfl
theorem one_bool (x : Bool) (u : Value) (h : u ∈ [Value.bool x]) : u.oneCell' = true := by
  simp at h
  subst h; rfl
theorem bel_app_of {w wr w2 : World} {o : Obj} {g : Nat} (hbel : Below w.heap.size w wr) (hb : w.heap.size ≤ g) (hg : (wr.alloc o).grownBy w2 (some g)) : Below w.heap.size w w2 :=
  (hbel.alloc hbel.size _).grown hg (by have := hbel.size; simp; omega) (fun k hk => by cases hk; exact hb)

theorem made_false (n j : Nat) (h : j < n) : ((madeCells #[Value.bool false] n).toList)[j]? = some (.bool false) := by
  rw [toList_madeCells_one]; simp [h]
/-- What the second loop holds of the world: the element rows, the two rows of positions. -/
structure Rws (P N : ByteArray) (w wr : World) (K g2 a b : Nat) (C D : Nat → Bool) : Prop where
  bel : Below w.heap.size w wr
  st : Cl wr w.heap.size K (fun j => .int .i64 (stp P j : Int))
  sb : Cl wr g2 K (fun j => .bool (decide (bt P (stp P j) = 42)))
  ca : Cl wr a (N.size + 1) (fun j => .bool (C j))
  cb : Cl wr b (N.size + 1) (fun j => .bool (D j))
  ne : a ≠ b ∧ a ≠ g2 ∧ b ≠ g2 ∧ w.heap.size < a ∧ w.heap.size < b
theorem Rws.drewN {P N : ByteArray} {w wr : World} {K g2 a b : Nat} {C D : Nat → Bool} (h : Rws P N w wr K g2 a b C D) (n : Nat) : Rws P N w (wr.drewN n) K g2 a b C D :=
  ⟨below_drewN h.bel n, h.st, h.sb, h.ca, h.cb, h.ne⟩
theorem Rws.swap {P N : ByteArray} {w wr : World} {K g2 a b : Nat} {C D : Nat → Bool} (h : Rws P N w wr K g2 a b C D) : Rws P N w wr K g2 b a D C :=
  ⟨h.bel, h.st, h.sb, h.cb, h.ca, ⟨h.ne.1.symm, h.ne.2.2.1, h.ne.2.1, h.ne.2.2.2.2, h.ne.2.2.2.1⟩⟩
theorem Rws.star {P N : ByteArray} {w wr : World} {K g2 a b : Nat} {C D : Nat → Bool} (h : Rws P N w wr K g2 a b C D) {m : Nat} (hm : m < K) (hs : bt P (stp P m) = 42) : wr.cell? ⟨g2, m, none⟩ = some (.bool true) :=
  (h.sb m hm).1.trans (congrArg (fun x => some (Value.bool x)) (decide_eq_true hs))
theorem Rws.plain {P N : ByteArray} {w wr : World} {K g2 a b : Nat} {C D : Nat → Bool} (h : Rws P N w wr K g2 a b C D) {m : Nat} (hm : m < K) (hs : ¬ bt P (stp P m) = 42) : wr.cell? ⟨g2, m, none⟩ = some (.bool false) :=
  (h.sb m hm).1.trans (congrArg (fun x => some (Value.bool x)) (decide_eq_false hs))
theorem Rws.cur {P N : ByteArray} {w wr : World} {K g2 a b : Nat} {C D : Nat → Bool} (h : Rws P N w wr K g2 a b C D) {t : Nat} {v : Bool} (ht : t ≤ N.size) (hv : C t = v) : wr.cell? ⟨a, t, none⟩ = some (.bool v) :=
  (h.ca t (by omega)).1.trans (congrArg (fun x => some (Value.bool x)) hv)
theorem Rws.nxt {P N : ByteArray} {w wr : World} {K g2 a b : Nat} {C D : Nat → Bool} (h : Rws P N w wr K g2 a b C D) {t : Nat} (ht : t ≤ N.size) : wr.cell? ⟨b, t, none⟩ = some (.bool (D t)) ∧ wr.frozen? ⟨b, t, none⟩ = false :=
  h.cb t (by omega)
def upd (D : Nat → Bool) (t : Nat) (v : Bool) (j : Nat) : Bool := if j = t then v else D j
theorem upd_same (D : Nat → Bool) (t : Nat) (v : Bool) : upd D t v t = v := by unfold upd; rw [if_pos rfl]
theorem upd_other (D : Nat → Bool) (t j : Nat) (v : Bool) (h : j ≠ t) : upd D t v j = D j := by unfold upd; rw [if_neg h]
theorem Rws.set {P N : ByteArray} {w wr : World} {K g2 a b : Nat} {C D : Nat → Bool} (h : Rws P N w wr K g2 a b C D) (t : Nat) (ht : t ≤ N.size) (v : Bool) : Rws P N w (wr.setCell ⟨b, t, none⟩ (.bool v)) K g2 a b C (upd D t v) :=
  ⟨h.bel.setCell (Nat.le_of_lt h.ne.2.2.2.2) _, h.st.set_other (by have := h.ne.2.2.2.2; omega) _, h.sb.set_other h.ne.2.2.1 _, h.ca.set_other h.ne.1.symm _,
    (h.cb.set_same (by omega) (.bool v)).congr (fun j _ => by unfold upd; split <;> rfl), h.ne⟩

set_option maxRecDepth 100000 in
set_option maxHeartbeats 4000000 in
theorem model_any (P N : ByteArray) (w : World) (hP : P.size ≤ 4096) (hN : N.size ≤ 4096) :
    Calls Try.prog 12 #[.string P, .string N] w fun e w' => ∃ r : Bool, e = .returned (.bool r) ∧ (r = true ↔ GM P N 0 0) ∧ Below w.heap.size w w' := by
  have hbP := get_bt P
  have hbN := get_bt N
  obtain ⟨i3, hi3, hz30, hz31, hz32⟩ := info_parts info3
  obtain ⟨i4, hi4, hz40, hz41, hz42⟩ := info_parts info4
  go_enter Try.func12, Try.ntmps12
  go_wp2_with (at_make; refine wpList_make_own _ rfl _ _ 31 rfl w.heap.size 3 i3 (.int .i64 0) 1 Try.underlying31 hi3 hz30 hz31 _ _ _ P.size rfl rfl (by omega) (by rw [hz32]; omega) (by unfold maxLen; omega) (Nat.le_refl _) ?_)
  intro w1 hown1 hgrow1
  have hbel1 : Below w.heap.size w w1 := (Below.refl _ _).grown hgrow1 (Nat.le_refl _) (fun k hk => by cases hk)
  have hlt1 := (hown1.lt w.heap.size rfl).2
  clear hgrow1
  go_wp2_with (at_make; refine wpList_make_own _ rfl _ _ 32 rfl w.heap.size 4 i4 (.bool false) 1 Try.underlying32 hi4 hz40 hz41 _ _ _ P.size rfl rfl (by omega) (by rw [hz42]; omega) (by unfold maxLen; omega) hbel1.size ?_)
  intro w2 hown2 hgrow2
  have hbel2 : Below w.heap.size w w2 := hbel1.grown hgrow2 hbel1.size (fun k hk => by cases hk)
  have hown1' := hown1.kept hgrow2 (Or.inr (by simp [Value.ownBlock]))
  generalize hg2 : w1.heap.size = g2 at *
  clear hgrow2 hown1 hbel1 hg2
  go_wp2
  go_loopg [6, 7, 8] P.size (fun g va vb i wr => ∃ k : Nat, k ≤ stp P k ∧ stp P k + g = P.size ∧ i = .int .i64 (stp P k) ∧ va = .slice (some ⟨w.heap.size, 0, none⟩) k P.size ∧ vb = .slice (some ⟨g2, 0, none⟩) k P.size ∧ wr.ownsRow w.heap.size 3 1 va k (sta P k) ∧ wr.ownsRow w.heap.size 4 1 vb k (stb P k) ∧ Below w.heap.size w wr ∧ Hid (∀ j, j < k → stp P j < P.size))
  case atStart => exact ⟨0, by omega, by simp [stp], rfl, rfl, rfl, hown1', hown2, hbel2, fun j h => absurd h (by omega)⟩
  case round =>
    clear hown1' hown2 hbel2
    obtain ⟨k, hk, hgk, rfl, rfl, rfl, hown1, hown2, hbel, HL⟩ := hrel
    by_cases hlt : stp P k < P.size
    · have HL' : Hid (∀ j, j < k + 1 → stp P j < P.size) := fun j hj => by
        by_cases e : j = k
        · rw [e]; exact hlt
        · exact HL.out j (by omega)
      go_wp2_with (at_builtin; refine wpList_append_fits _ rfl _ _ 31 rfl w.heap.size 3 i3 1 Try.underlying31 hi3 hz31 w.heap.size k P.size (sta P k) rfl (hown1.alloc _) ⟨wr.heap.size, 0, none⟩ 1 1 [.int .i64 (stp P k)] rfl rfl (fun j u h => one_cell_of _ _ _ j u h) (one_int _) (by omega) ?_)
      intro w3 hown3 hgrow3
      have hbel3 := bel_app_of hbel (Nat.le_refl _) hgrow3
      have hown2' := (hown2.alloc (.cells #[Value.int .i64 (stp P k)] 3)).kept hgrow3 (Or.inr (by simp [Value.ownBlock]; omega))
      rw [sta_succ] at hown3
      clear hgrow3 hown1 hown2 hbel
      by_cases hs : bt P (stp P k) = 42
      · have HT : Hid (stp P (k + 1) = stp P k + 1) := stp_star P k hlt hs
        have HB : Hid (stb P k ++ [.bool true] = stb P (k + 1)) := stb_star P k hs
        have ks : (bt P (stp P k) == 42) = true := by rw [hs]; rfl
        clear hs
        generalize stp P k = sp at *
        go_wp2_with (at_builtin; refine wpList_append_fits _ rfl _ _ 32 rfl w.heap.size 4 i4 1 Try.underlying32 hi4 hz41 g2 k P.size (stb P k) rfl (hown2'.alloc _) ⟨w3.heap.size, 0, none⟩ 1 1 [.bool true] rfl rfl (fun j u h => one_cell_of _ _ _ j u h) (one_bool _) (by omega) ?_)
        intro w4 hown4 hgrow4
        have hbel4 := bel_app_of hbel3 (Nat.le_of_lt hlt1) hgrow4
        have hown3' := (hown3.alloc (.cells #[Value.bool true] 4)).kept hgrow4 (Or.inr (by simp [Value.ownBlock]; omega))
        rw [HB.out] at hown4
        clear hgrow4 hown3 hown2' hbel3
        go_wp2
        go_roundg (P.size - (sp + 1))
        case measure => omega
        case rel => exact ⟨k + 1, by rw [HT.out]; omega, by rw [HT.out]; omega, by rw [HT.out]; go_num, rfl, rfl, hown3', hown4, hbel4, HL'⟩
      · have HT : Hid (stp P (k + 1) = stp P k + wid P (stp P k)) := stp_byte P k hlt hs
        have HB : Hid (stb P k ++ [.bool false] = stb P (k + 1)) := stb_byte P k hs
        have ks : (bt P (stp P k) == 42) = false := by rw [beq_eq_false_iff_ne]; exact hs
        obtain ⟨v1, v2⟩ := wid_range P _ hlt
        have hz : (P.extract (stp P k) P.size).size = P.size - stp P k := by rw [size_cut]; omega
        have HC : Hid (∀ wx, Calls Try.prog 16 #[.string (P.extract (stp P k) P.size), .int .u8 0] wx fun e w' => e = .returned (.tuple #[.int .i64 (wid P (stp P k)), .bool (oks P (stp P k) 0)]) ∧ ∃ n, wx.drewN n = w') := fun wx => by
          rw [← wid_int P _ hlt]; exact ZZmatchByte_any _ _ _ (by omega) (by omega)
        clear hs hz
        generalize oks P (stp P k) 0 = ob at *
        generalize wid P (stp P k) = wd at *
        generalize stp P k = sp at *
        go_wp2_with (first | (go_at_call 16; refine (HC.out _).mono ?_; rintro e w' ⟨rfl, n, rfl⟩) | (at_builtin; refine wpList_append_fits _ rfl _ _ 32 rfl w.heap.size 4 i4 1 Try.underlying32 hi4 hz41 g2 k P.size (stb P k) rfl (World.ownsRow.alloc (by exact hown2') _) ⟨w3.heap.size, 0, none⟩ 1 1 [.bool false] rfl rfl (fun j u h => one_cell_of _ _ _ j u h) (one_bool _) (by omega) ?_))
        intro w4 hown4 hgrow4
        have hbel4 := bel_app_of (below_drewN hbel3 n) (Nat.le_of_lt hlt1) hgrow4
        have hown3' := (World.ownsRow.alloc (w := w3.drewN n) hown3 (.cells #[Value.bool false] 4)).kept hgrow4 (Or.inr (by simp [Value.ownBlock]; omega))
        rw [HB.out] at hown4
        clear hgrow4 hown3 hown2' hbel3
        go_wp2
        go_roundg (P.size - (sp + wd))
        case measure => omega
        case rel => exact ⟨k + 1, by rw [HT.out]; omega, by rw [HT.out]; omega, by rw [HT.out]; go_num, rfl, rfl, hown3', hown4, hbel4, HL'⟩
    · have hA : Cl wr w.heap.size k (fun j => .int .i64 (stp P j : Int)) := Cl.of_owns hown1 _ (fun j hj => sta_get P k j hj)
      have hB : Cl wr g2 k (fun j => .bool (decide (bt P (stp P j) = 42))) := Cl.of_owns hown2 _ (fun j hj => stb_get P k j hj)
      have hlt2 := (hown2.lt g2 rfl).2
      have hend : P.size ≤ stp P k := by omega
      clear hown1 hown2 hlt
      go_wp2_with (at_make; refine wpList_make_full _ rfl _ _ 32 rfl w.heap.size 4 i4 (.bool false) 1 Try.underlying32 hi4 hz40 hz41 _ _ _ _ (N.size + 1) rfl rfl (by omega) (by omega) (by rw [hz42]; omega) (by unfold maxLen; omega) hbel.size ?_)
      intro w5 hown5 hgrow5
      have hC5 : Cl w5 wr.heap.size (N.size + 1) (fun _ => .bool false) := Cl.of_owns hown5 _ (fun j hj => made_false _ j hj)
      have hA5 := hA.grown hgrow5 (by simp)
      have hB5 := hB.grown hgrow5 (by simp)
      have hbel5 : Below w.heap.size w w5 := hbel.grown hgrow5 hbel.size (fun k hk => by cases hk)
      have hlt5 := (hown5.lt wr.heap.size rfl).2
      clear hown5 hgrow5 hA hB hbel
      go_wp2_with (at_make; refine wpList_make_full _ rfl _ _ 32 rfl w.heap.size 4 i4 (.bool false) 1 Try.underlying32 hi4 hz40 hz41 _ _ _ _ (N.size + 1) rfl rfl (by omega) (by omega) (by rw [hz42]; omega) (by unfold maxLen; omega) hbel5.size ?_)
      intro w6 hown6 hgrow6
      have hD6 : Cl w6 w5.heap.size (N.size + 1) (fun _ => .bool false) := Cl.of_owns hown6 _ (fun j hj => made_false _ j hj)
      have hC6 := hC5.grown hgrow6 (by simp)
      have hA6 := hA5.grown hgrow6 (by simp)
      have hB6 := hB5.grown hgrow6 (by simp)
      have hbel6 : Below w.heap.size w w6 := hbel5.grown hgrow6 hbel5.size (fun k hk => by cases hk)
      have hR : Rws P N w w6 k g2 w5.heap.size wr.heap.size (fun _ => false) (fun _ => false) := ⟨hbel6, hA6, hB6, hD6, hC6, by omega⟩
      clear hown6 hgrow6 hA6 hB6 hD6 hC6 hbel6 hA5 hB5 hC5 hbel5
      generalize wr.heap.size = g3 at *
      generalize w5.heap.size = g4 at *
      obtain ⟨hcell0, hfz0⟩ := hR.cb 0 (by omega)
      have hR2 := (hR.set 0 (Nat.zero_le _) true).swap
      have hAI : Hid (AI P N 0 (upd (fun _ => false) 0 true)) := ai_start P N _ (upd_same _ _ _) (fun j h1 _ => upd_other _ _ _ _ (by omega))
      clear hR
      go_wp2
      go_loopg [12, 13, 14] k (fun g vc vn i wv => ∃ (m a b : Nat) (C D : Nat → Bool), m + g = k ∧ i = .int .i64 m ∧ vc = .slice (some ⟨a, 0, none⟩) (N.size + 1) (N.size + 1) ∧ vn = .slice (some ⟨b, 0, none⟩) (N.size + 1) (N.size + 1) ∧ Rws P N w wv k g2 a b C D ∧ Hid (AI P N m C))
      case atStart => exact ⟨0, g3, g4, _, _, by omega, rfl, rfl, rfl, hR2, hAI⟩
      case round =>
        clear hR2 hAI hcell0 hfz0
        obtain ⟨m, a, b, C, D, hm, rfl, rfl, rfl, hR, hAI⟩ := hrel
        by_cases hlt : m < k
        · have hsp := HL.out m hlt
          by_cases hs : bt P (stp P m) = 42
          · have hcm := hR.star hlt hs
            have HA : Hid (∀ D', (∀ j, j < N.size + 1 → D' j = orTo C (j + 1)) → AI P N (m + 1) D') := fun D' h => ai_star P N m C D' hAI.out hsp hs (fun j hj => h j (by omega))
            clear hs hAI
            go_wp2
            go_loopg [15, 16] (N.size + 1) (fun g vs vt wx => ∃ (t : Nat) (D' : Nat → Bool), t + g = N.size + 1 ∧ vt = .int .i64 t ∧ vs = .bool (orTo C t) ∧ Rws P N w wx k g2 a b C D' ∧ Hid (∀ j, j < t → D' j = orTo C (j + 1)))
            case atStart => exact ⟨0, D, by omega, rfl, rfl, hR, fun j h => absurd h (by omega)⟩
            case round =>
              clear hR hcm
              obtain ⟨t, D', ht, rfl, rfl, hR, HD⟩ := hrel
              by_cases htl : t ≤ N.size
              · obtain ⟨hc2, hf2⟩ := hR.nxt htl
                have HN : Hid (∀ v, v = orTo C (t + 1) → ∀ j, j < t + 1 → upd D' t v j = orTo C (j + 1)) := fun v hv j hj => by
                  by_cases e : j = t
                  · rw [e, upd_same, hv]
                  · rw [upd_other _ _ _ _ e]; exact HD.out j (by omega)
                cases hct : C t
                · have hc1 := hR.cur htl hct
                  have HO : Hid (orTo C t = orTo C (t + 1)) := by rw [Hid, orTo, hct]; simp
                  clear hct
                  go_wp2
                  go_roundg (N.size - t)
                  case measure => omega
                  case rel => exact ⟨t + 1, _, by omega, by go_num, congrArg Value.bool HO.out, hR.set t htl _, HN.out _ HO.out⟩
                · have hc1 := hR.cur htl hct
                  have HO : Hid (true = orTo C (t + 1)) := by rw [Hid, orTo, hct]; simp
                  clear hct
                  go_wp2
                  go_roundg (N.size - t)
                  case measure => omega
                  case rel => exact ⟨t + 1, _, by omega, by go_num, congrArg Value.bool HO.out, hR.set t htl _, HN.out _ HO.out⟩
              · have HE := HA.out D' (fun j hj => HD.out j (by omega))
                have HE' : Hid (AI P N (m + 1) D') := HE
                clear HE HA HD
                go_wp2
                go_roundg (k - (m + 1))
                case measure => omega
                case rel => exact ⟨m + 1, b, a, _, _, by omega, by go_num, rfl, rfl, hR.swap, HE'⟩
          · have hcm := hR.plain hlt hs
            obtain ⟨hc2, hf2⟩ := hR.nxt (Nat.zero_le N.size)
            have hcs := (hR.st m hlt).1
            have hz : (P.extract (stp P m) P.size).size = P.size - stp P m := by rw [size_cut]; omega
            have HC : Hid (∀ (x : Int) wx, Calls Try.prog 16 #[.string (P.extract (stp P m) P.size), .int .u8 x] wx fun e w' => e = .returned (.tuple #[.int .i64 (wid P (stp P m)), .bool (oks P (stp P m) x)]) ∧ ∃ n, w' = wx.drewN n) := fun x wx => by
              rw [← wid_int P _ hsp]; exact (ZZmatchByte_any _ _ _ (by omega) (by omega)).mono fun _ _ ⟨a, k, b⟩ => ⟨a, k, b.symm⟩
            have HA : Hid (∀ D', D' 0 = false → (∀ j, j < N.size → D' (j + 1) = (C j && oks P (stp P m) (bt N j))) → AI P N (m + 1) D') := fun D' h0 h => ai_byte P N m C D' hAI.out hsp hs h0 h
            have hR0 := hR.set 0 (Nat.zero_le _) false
            clear hs hAI hz hR
            go_wp2
            clear hcm hc2 hf2 hcs
            go_loopg [17] N.size (fun g vt wx => ∃ (t : Nat) (D' : Nat → Bool), t + g = N.size ∧ vt = .int .i64 t ∧ Rws P N w wx k g2 a b C D' ∧ Hid (D' 0 = false) ∧ Hid (∀ j, j < t → D' (j + 1) = (C j && oks P (stp P m) (bt N j))))
            case atStart => exact ⟨0, _, by omega, rfl, hR0, upd_same _ _ _, fun j h => absurd h (by omega)⟩
            case round =>
              clear hR0
              obtain ⟨t, D', ht, rfl, hR, HZ, HD⟩ := hrel
              by_cases htl : t < N.size
              · obtain ⟨hc2, hf2⟩ := hR.nxt (Nat.succ_le_of_lt htl)
                have hcs := (hR.st m hlt).1
                have HZ' : Hid (∀ v, upd D' (t + 1) v 0 = false) := fun v => by rw [upd_other _ _ _ _ (by omega)]; exact HZ.out
                have HN : Hid (∀ v, v = (C t && oks P (stp P m) (bt N t)) → ∀ j, j < t + 1 → upd D' (t + 1) v (j + 1) = (C j && oks P (stp P m) (bt N j))) := fun v hv j hj => by
                  by_cases e : j = t
                  · rw [e, upd_same, hv]
                  · rw [upd_other _ _ _ _ (by omega)]; exact HD.out j (by omega)
                cases hct : C t
                · have hc1 := hR.cur (Nat.le_of_lt htl) hct
                  have HO : Hid (false = (C t && oks P (stp P m) (bt N t))) := by rw [Hid, hct]; rfl
                  clear hct hcs
                  go_wp2
                  go_roundg (N.size - (t + 1))
                  case measure => omega
                  case rel => exact ⟨t + 1, _, by omega, by go_num, hR.set (t + 1) (Nat.succ_le_of_lt htl) _, HZ'.out _, HN.out _ HO.out⟩
                · have hc1 := hR.cur (Nat.le_of_lt htl) hct
                  have HO : Hid (oks P (stp P m) (bt N t) = (C t && oks P (stp P m) (bt N t))) := by rw [Hid, hct]; rfl
                  have HC' := HC.out (bt N t)
                  have HC2 : Hid (∀ wx, Calls Try.prog 16 #[.string (P.extract (stp P m) P.size), .int .u8 (bt N t)] wx fun e w' => e = .returned (.tuple #[.int .i64 (wid P (stp P m)), .bool (oks P (stp P m) (bt N t))]) ∧ ∃ n, w' = wx.drewN n) := HC'
                  clear hct HC'
                  go_wp2
                  go_quiet ((go_at_call 16; exact Calls.quiet_of (HC2.out _)))
                  go_wp2
                  go_roundg (N.size - (t + 1))
                  case measure => omega
                  case rel => exact ⟨t + 1, _, by omega, by go_num, (hR.drewN _).set (t + 1) (Nat.succ_le_of_lt htl) _, HZ'.out _, HN.out _ HO.out⟩
              · have HE' : Hid (AI P N (m + 1) D') := HA.out D' HZ.out (fun j hj => HD.out j (by omega))
                clear HA HD HZ HC
                go_wp2
                go_roundg (k - (m + 1))
                case measure => omega
                case rel => exact ⟨m + 1, b, a, _, _, by omega, by go_num, rfl, rfl, hR.swap, HE'⟩
        · have ek : m = k := by omega
          subst ek
          have HF : Hid (C N.size = true ↔ GM P N 0 0) := ai_end P N m C hAI.out hend
          have hc1 := hR.cur (Nat.le_refl _) rfl
          clear hAI
          go_wp2
          go_ret
          exact ⟨C N.size, rfl, HF.out, hR.bel⟩

end Go.Proofs.Qxb6601063a.Wk
