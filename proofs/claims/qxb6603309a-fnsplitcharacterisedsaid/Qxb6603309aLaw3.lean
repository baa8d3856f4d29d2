/-
  THE LAW's OWN WALK: FnSplitCharacterised.
-/
import Derived.Test.Qxb6603309aSplit
namespace Go.Proofs.Qxb6603309a.Wk
open Go.RowKit Go.PlainAid

theorem grown_drewN {W w : World} (h : Grown W w) (n : Nat) : Grown W (w.drewN n) := h
set_option maxHeartbeats 400000 in
theorem zz5 (s : ByteArray) (w : World) (hn : s.size ≤ 1048576) :
    Calls Try.prog 5 #[.string s] w fun e w' => e = .returned (.bool true) ∧ w = w' := by
  go_enter Try.func5, Try.ntmps5
  go_wp2
  go_ret
  exact ⟨rfl, rfl⟩

theorem app_list (a b : ByteArray) : (a ++ b).toList = a.data.toList ++ b.data.toList := by
  rw [Lib.toList_data, ByteArray.data_append, Array.toList_append]
theorem bt_list (s : ByteArray) (k : Nat) : bt s k = ((s.data.toList.getD k 0).toNat : Int) := by
  by_cases h : k < s.size
  · rw [← get_bt s k h, List.getD_eq_getElem?_getD, Lib.data_getElem? s k h]; rfl
  · rw [bt_end s (by omega), List.getD_eq_getElem?_getD, List.getElem?_eq_none (by rw [← Lib.size_eq]; omega)]; rfl
theorem size_cut (s : ByteArray) (a b : Nat) : (s.extract a b).size = min b s.size - a := by simp [ByteArray.size_extract]
theorem bt_cut (s : ByteArray) (a b i : Nat) (h : i < min b s.size - a) : bt (s.extract a b) i = bt s (a + i) := by
  rw [bt_list, bt_list, Lib.extract_data, List.getD_eq_getElem?_getD, List.getD_eq_getElem?_getD, List.getElem?_take_of_lt (by omega), List.getElem?_drop]
theorem no_slash (s : ByteArray) (i : Nat) (h4 : ∀ j, i < j → j < s.size → ¬ bt s j = 47) : slTo (nameOf s i) (nameOf s i).size = false := by
  refine slTo_false _ _ fun j hj => ?_
  unfold nameOf at hj ⊢
  rw [size_cut] at hj
  rw [bt_cut _ _ _ _ hj]
  exact h4 _ (by omega) (by omega)
theorem at_slash (s : ByteArray) (i : Nat) (hi : i < s.size) (h3 : bt s i = 47) : s.data.toList = s.data.toList.take i ++ ([47] ++ s.data.toList.drop (i + 1)) := by
  have hl : i < s.data.toList.length := by rw [← Lib.size_eq]; exact hi
  have e : s.data.toList[i] = 47 := by
    rw [bt_list, List.getD_eq_getElem?_getD, List.getElem?_eq_getElem hl, Option.getD_some] at h3
    have e2 : (s.data.toList[i]).toNat = (47 : UInt8).toNat := by show _ = 47; omega
    exact UInt8.toNat_inj.1 e2
  conv => lhs; rw [← List.take_append_drop i s.data.toList]
  rw [List.drop_eq_getElem_cons hl, e]
  rfl
theorem name_list (s : ByteArray) (i : Nat) : (nameOf s i).data.toList = s.data.toList.drop (i + 1) := Lib.extract_to_end s (i + 1)
theorem split_ok (s : ByteArray) (i : Nat) (hi : i < s.size) (h3 : bt s i = 47) : ¬ (dirOf s i).toList = [] ∧
    (((dirOf s i ++ ⟨#[47]⟩ ++ nameOf s i).toList == s.toList) = true ∨ ((dirOf s i).toList = [47] ∧ ((⟨#[47]⟩ ++ nameOf s i : ByteArray).toList == s.toList) = true)) := by
  have hs := at_slash s i hi h3
  have hl : s.data.toList.length = s.size := (Lib.size_eq s).symm
  by_cases h0 : i = 0
  · subst h0
    have hd : dirOf s 0 = ⟨#[47]⟩ := rfl
    rw [hd]
    refine ⟨by rw [Lib.toList_data]; simp, Or.inr ⟨by rw [Lib.toList_data], ?_⟩⟩
    rw [app_list, Lib.toList_data, name_list, beq_iff_eq]
    conv => rhs; rw [hs]
    simp
  · have hd : dirOf s i = s.extract 0 i := by rw [dirOf, if_neg h0]
    have hdl : (dirOf s i).data.toList = s.data.toList.take i := by rw [hd, Lib.extract_data]; simp
    refine ⟨?_, Or.inl ?_⟩
    · rw [Lib.toList_data, hdl]
      intro e
      have := congrArg List.length e
      rw [List.length_take, hl, List.length_nil] at this
      omega
    · rw [app_list, ByteArray.data_append, Array.toList_append, hdl, name_list, Lib.toList_data, beq_iff_eq]
      conv => rhs; rw [hs]
      simp

set_option maxHeartbeats 1000000 in
theorem walk3 (s : ByteArray) (hs0 : s.size ≤ maxLen) (w : World) :
    Calls Try.prog 3 #[.string s] w fun e w' => e = .returned (.bool true) ∧ Grown w w' := by
  unfold maxLen at hs0
  by_cases c1 : 1048576 < s.size
  · go_enter Try.func3, Try.ntmps3
    go_wp2
    go_ret
    exact ⟨rfl, Grown.refl _⟩
  have hs : s.size ≤ 1048576 := by omega
  clear c1 hs0
  rcases lsTo_spec s s.size with ⟨_, h2⟩ | ⟨i, h1, h2, h3, h4⟩
  · go_enter Try.func3, Try.ntmps3
    go_wp2_with (first | (go_at_call 5; refine (zz5 _ _ hs).mono ?_; rintro e w' ⟨rfl, rfl⟩) | (go_at_call 6; refine (hasSlash_any _ _ (by omega)).mono ?_; rintro e w' ⟨rfl, rfl⟩))
    go_ret
    exact ⟨rfl, Grown.refl _⟩
  · have hsl := slTo_hit s i h3 s.size h1
    have HC : Hid (∀ wx, Calls Try.prog 7 #[.string s] wx fun e w' => e = .returned (.tuple #[.string (dirOf s i), .string (nameOf s i)]) ∧ ∃ n, wx.drewN n = w') := fun wx => ZZSplit_any s i wx (by omega) h1 h2
    have hno : Hid (slTo (nameOf s i) (nameOf s i).size = false) := no_slash s i h4
    have hnz : (nameOf s i).size ≤ 1048576 := by unfold nameOf; rw [size_cut]; omega
    have hdz : (dirOf s i).size ≤ 1048576 := by
      unfold dirOf
      split
      · show 1 ≤ 1048576; omega
      · rw [size_cut]; omega
    obtain ⟨hd0, hx⟩ := split_ok s i h1 h3
    have HX : Hid (((dirOf s i ++ ⟨#[47]⟩ ++ nameOf s i).toList == s.toList) = true ∨ ((dirOf s i).toList = [47] ∧ ((⟨#[47]⟩ ++ nameOf s i : ByteArray).toList == s.toList) = true)) := hx
    clear hx
    clear h2 h4
    go_enter Try.func3, Try.ntmps3
    go_wp2_with (first | (go_at_call 5; refine (zz5 _ _ hs).mono ?_; rintro e w' ⟨rfl, rfl⟩) | (go_at_call 6; refine (hasSlash_any s _ (by omega)).mono ?_; rintro e w' ⟨rfl, rfl⟩))
    refine (HC.out _).mono ?_
    rintro e w' ⟨rfl, n, rfl⟩
    go_wp2_with fail
    refine (hasSlash_any (nameOf s i) _ (by omega)).mono ?_
    rintro e w' ⟨rfl, rfl⟩
    rw [hno.out]
    generalize dirOf s i = dv at *
    generalize nameOf s i = nv at *
    have hde : (!dv.toList.isEmpty) = true := by simpa using hd0
    go_wp2
    · go_ret
      exact ⟨rfl, grown_drewN (Grown.refl w) _⟩
    · have hq : ((dv ++ ⟨#[47]⟩ ++ nv).toList == s.toList) = false := by assumption
      have hr : ((⟨#[47]⟩ ++ nv : ByteArray).toList == s.toList) = true := by
        rcases HX.out with h | h
        · rw [hq] at h; exact absurd h (by decide)
        · exact h.2
      go_ret
      exact ⟨ret_bool hr, grown_drewN (Grown.refl w) _⟩
    · have hq : ((dv ++ ⟨#[47]⟩ ++ nv).toList == s.toList) = false := by assumption
      have hr : ¬ dv.toList = [47] := by assumption
      exfalso
      rcases HX.out with h | h
      · rw [hq] at h; exact absurd h (by decide)
      · exact hr h.1

end Go.Proofs.Qxb6603309a.Wk
