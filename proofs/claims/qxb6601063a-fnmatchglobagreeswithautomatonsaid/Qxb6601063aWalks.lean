/-
  THE WALKS of package watcher's glob: each Go function computes its plain function (Qxb6601063aPlain).
-/
import Derived.Test.Qxb6601063aRows
import Derived.Test.Qxb6601063aPlain
import Derived.WalkKit
import Derived.WalkLawsBesides
import Derived.Deep.QuietTactic
import Derived.BigQuiet
import Derived.Outline
import Derived.Handy
import Derived.Deep.DeepCutAuto
namespace Go.Proofs.Qxb6601063a.Wk
open Go.RowKit Go.PlainAid Pl

theorem ret_int {k : IntKind} {a b : Int} (h : a = b) : Ending.returned (.int k a) = .returned (.int k b) := by rw [h]
theorem ret_bool {a b : Bool} (h : a = b) : Ending.returned (.bool a) = .returned (.bool b) := by rw [h]

set_option maxHeartbeats 400000 in
theorem setEnd_any (s : ByteArray) (w : World) (hs : s.size ≤ 1099511627776) :
    Calls Try.prog 25 #[.string s] w fun e w' => e = .returned (.int .i64 (seI s 1)) ∧ w = w' := by
  have hb := get_bt s
  go_enter Try.func25, Try.ntmps25
  go_wp2
  go_loop [3] (fun i => ∃ k : Nat, k ≤ s.size + 1 ∧ i = .int .i64 k ∧ Hid (seI s 1 = seI s k)) (fun i => s.size + 1 - (intOf i).toNat)
  case atStart => exact ⟨1, by omega, rfl, rfl⟩
  case round =>
    obtain ⟨k, hk, rfl, HS⟩ := hrel
    by_cases hlt : k < s.size
    · have HT : Hid (seI s k = if bt s k = 92 then seI s (k + 2) else if bt s k = 93 then (k : Int) else seI s (k + 1)) := seI_step s k hlt
      go_wp2
      · have c1 : bt s k = 92 := by simpa using ‹(bt s k == 92) = true›
        have e1 : seI s 1 = seI s (k + 2) := by rw [HS.out, HT.out, if_pos c1]
        go_round
        case rel => exact ⟨k + 2, by omega, by go_num, e1⟩
        case measure => simp [intOf]; omega
      · have c1 : ¬ bt s k = 92 := by simpa using ‹(bt s k == 92) = false›
        have c2 : bt s k = 93 := by simpa using ‹(bt s k == 93) = true›
        have e1 : (k : Int) = seI s 1 := by rw [HS.out, HT.out, if_neg c1, if_pos c2]
        go_ret
        exact ⟨ret_int e1, rfl⟩
      · have c1 : ¬ bt s k = 92 := by simpa using ‹(bt s k == 92) = false›
        have c2 : ¬ bt s k = 93 := by simpa using ‹(bt s k == 93) = false›
        have e1 : seI s 1 = seI s (k + 1) := by rw [HS.out, HT.out, if_neg c1, if_neg c2]
        go_round
        case rel => exact ⟨k + 1, by omega, by go_num, e1⟩
        case measure => simp [intOf]; omega
    · go_wp2
      go_ret
      exact ⟨ret_int (by rw [HS.out, seI_end s k (by omega)]), rfl⟩

set_option maxHeartbeats 400000 in
theorem hasCaret (s : ByteArray) (w : World) (hs : s.size ≤ 1099511627776) :
    Calls Try.prog 26 #[.string s, .string ⟨#[94]⟩] w fun e w' => e = .returned (.bool (ngB s)) ∧ w = w' := by
  have hb := get_bt s
  by_cases h0 : 1 ≤ s.size
  · go_enter Try.func26, Try.ntmps26
    go_wp2
    go_ret
    exact ⟨ret_bool (caret_eq s h0), rfl⟩
  · go_enter Try.func26, Try.ntmps26
    go_wp2
    go_ret
    refine ⟨ret_bool ?_, rfl⟩
    unfold ngB
    simp; omega

set_option maxRecDepth 100000 in
set_option maxHeartbeats 1000000 in
theorem inSet_any (s : ByteArray) (b : Int) (w : World) (hs : s.size ≤ 1099511627776) :
    Calls Try.prog 24 #[.string s, .int .u8 b] w fun e w' => e = .returned (.bool (inS s b)) ∧ w = w' := by
  have hsb := body_size s
  go_enter Try.func24, Try.ntmps24
  go_upto_if 12 with (go_at_call 26; refine (hasCaret _ _ hs).mono ?_; rintro e w' ⟨rfl, rfl⟩)
  go_cut [0, 5] (fun s0 n0 wx => s0 = .string (body s) ∧ n0 = .bool (ngB s) ∧ w = wx)
  case first =>
    cases hn : ngB s
    · have HE : Hid (body s = s) := by show body s = s; unfold body; rw [if_neg (by rw [hn]; simp)]
      have HN : Hid (ngB s = false) := hn
      clear hn hsb
      go_wp2
      go_meet
      case rel => exact ⟨by rw [HE.out], by rw [HN.out], rfl⟩
    · have h1 : 1 ≤ s.size := by simp [ngB] at hn; omega
      have HE : Hid (body s = s.extract 1 s.size) := by show body s = _; unfold body; rw [if_pos hn]
      have HN : Hid (ngB s = true) := hn
      clear hn hsb
      go_wp2
      go_meet
      case rel => exact ⟨by rw [HE.out], by rw [HN.out], rfl⟩
  case rest =>
    obtain ⟨rfl, rfl, rfl⟩ := hcut
    have hfin : Hid (inS s b = (itI (body s) b 0 != ngB s)) := rfl
    generalize body s = t at *
    generalize ngB s = ng at *
    have hb := get_bt t
    go_wp2
    go_loopg [6, 7] t.size (fun m f i wr => w = wr ∧ ∃ k : Nat, ∃ fb : Bool, k + m = t.size ∧ i = .int .i64 k ∧ f = .bool fb ∧ Hid (itI t b 0 = (fb || itI t b k)))
    case atStart => exact ⟨rfl, 0, false, by omega, rfl, rfl, by simp [Hid]⟩
    case round =>
      obtain ⟨rfl, k, fb, hk, rfl, rfl, HS⟩ := hrel
      by_cases hlt : k < t.size
      · go_upto_region 9 with fail
        go_cut [8, 32] (fun lo x wx => lo = .int .u8 (bt t k) ∧ x = .bool (decide (bt t k = 92 ∧ k + 1 < t.size)) ∧ w = wx)
        case first =>
          go_wp2
          · have e : bt t k = 92 := by assumption
            go_meet
            case rel => exact ⟨by rw [e], congrArg Value.bool (decide_eq_decide.2 ⟨fun h => ⟨e, by omega⟩, fun h => by omega⟩), rfl⟩
          · have e : ¬ bt t k = 92 := by assumption
            go_meet
            case rel => exact ⟨rfl, congrArg Value.bool (decide_eq_false (fun h => e h.1)).symm, rfl⟩
        case rest =>
          obtain ⟨rfl, rfl, rfl⟩ := hcut
          have HJ : Hid (esc t k = if bt t k = 92 ∧ k + 1 < t.size then k + 1 else k) := rfl
          have jlt := esc_lt t k hlt
          go_upto_if 32 with fail
          go_cut [7, 8] (fun i lo wx => i = .int .i64 ((esc t k : Nat) : Int) ∧ lo = .int .u8 (bt t (esc t k)) ∧ w = wx)
          case first =>
            by_cases c : bt t k = 92 ∧ k + 1 < t.size
            · have HJ' : Hid (esc t k = k + 1) := by rw [Hid, HJ.out, if_pos c]
              have c2 := c.2
              go_wp2
              go_meet
              case rel => exact ⟨by rw [HJ'.out]; go_num, by rw [HJ'.out], rfl⟩
            · have HJ' : Hid (esc t k = k) := by rw [Hid, HJ.out, if_neg c]
              go_wp2
              go_meet
              case rel => exact ⟨by rw [HJ'.out], by rw [HJ'.out], rfl⟩
          case rest =>
            obtain ⟨rfl, rfl, rfl⟩ := hcut
            have hlen : k < t.size := hlt
            have HK : Hid (itI t b k = (btw (bt t (esc t k)) (bt t (hiAt t (esc t k))) b || itI t b (hiAt t (esc t k) + 1))) := itI_step t b k hlt
            have hge := esc_ge t k
            clear HJ
            generalize esc t k = j at *
            go_upto_region 13 with fail
            go_cut [50] (fun x wx => x = .bool (decide (j + 2 < t.size ∧ bt t (j + 1) = 45)) ∧ w = wx)
            case first =>
              by_cases c : j + 2 < t.size
              · go_wp2
                go_meet
                case rel => exact ⟨congrArg Value.bool (by rw [Bool.eq_iff_iff]; simp [c]), rfl⟩
              · go_wp2
                go_meet
                case rel => exact ⟨congrArg Value.bool (decide_eq_false (fun h => c h.1)).symm, rfl⟩
            case rest =>
              obtain ⟨rfl, rfl⟩ := hcut
              have HJ : Hid (hiAt t j = if j + 2 < t.size ∧ bt t (j + 1) = 45 then esc t (j + 2) else j) := rfl
              have hlt2 := hiAt_lt t j jlt
              have hge2 := hiAt_ge t j
              go_upto_if 50 with fail
              go_cut [7, 9] (fun i hi wx => i = .int .i64 ((hiAt t j : Nat) : Int) ∧ hi = .int .u8 (bt t (hiAt t j)) ∧ w = wx)
              case first =>
                by_cases c : j + 2 < t.size ∧ bt t (j + 1) = 45
                · have HE : Hid (hiAt t j = if bt t (j + 2) = 92 ∧ j + 2 + 1 < t.size then j + 2 + 1 else j + 2) := by rw [Hid, HJ.out, if_pos c]; rfl
                  have c2 := c.1
                  go_wp2
                  · have e1 : bt t (j + 2) = 92 := by assumption
                    have e2 : (j : Int) + 2 + 1 < t.size := by assumption
                    have e3 : hiAt t j = j + 2 + 1 := by rw [HE.out, if_pos ⟨e1, by omega⟩]
                    go_meet
                    case rel => exact ⟨by rw [e3]; go_num, by rw [e3], rfl⟩
                  · have e1 : bt t (j + 2) = 92 := by assumption
                    have e2 : (t.size : Int) ≤ (j : Int) + 2 + 1 := by assumption
                    have e3 : hiAt t j = j + 2 := by rw [HE.out, if_neg (fun h => by omega)]
                    go_meet
                    case rel => exact ⟨by rw [e3]; go_num, by rw [e3, e1], rfl⟩
                  · have e1 : ¬ bt t (j + 2) = 92 := by assumption
                    have e3 : hiAt t j = j + 2 := by rw [HE.out, if_neg (fun h => e1 h.1)]
                    go_meet
                    case rel => exact ⟨by rw [e3]; go_num, by rw [e3], rfl⟩
                · have HJ' : Hid (hiAt t j = j) := by rw [Hid, HJ.out, if_neg c]
                  go_wp2
                  go_meet
                  case rel => exact ⟨by rw [HJ'.out], by rw [HJ'.out], rfl⟩
              case rest =>
                obtain ⟨rfl, rfl, rfl⟩ := hcut
                clear HJ
                generalize hiAt t j = h at *
                go_wp2
                · have hv := btw_t (bt t j) (bt t h) b (by omega)
                  go_roundg (t.size - (h + 1))
                  case measure => omega
                  case rel => exact ⟨rfl, h + 1, true, by omega, by go_num, rfl, by rw [Hid, HS.out, HK.out, hv]; simp⟩
                · have hv := btw_f (bt t j) (bt t h) b (by omega)
                  go_roundg (t.size - (h + 1))
                  case measure => omega
                  case rel => exact ⟨rfl, h + 1, fb, by omega, by go_num, rfl, by rw [Hid, HS.out, HK.out, hv]; simp⟩
                · have hv := btw_f (bt t j) (bt t h) b (by omega)
                  go_roundg (t.size - (h + 1))
                  case measure => omega
                  case rel => exact ⟨rfl, h + 1, fb, by omega, by go_num, rfl, by rw [Hid, HS.out, HK.out, hv]; simp⟩
                · have hv := btw_t (bt t j) (bt t h) b (by omega)
                  go_roundg (t.size - (h + 1))
                  case measure => omega
                  case rel => exact ⟨rfl, h + 1, true, by omega, by go_num, rfl, by rw [Hid, HS.out, HK.out, hv]; simp⟩
                · have hv := btw_f (bt t j) (bt t h) b (by omega)
                  go_roundg (t.size - (h + 1))
                  case measure => omega
                  case rel => exact ⟨rfl, h + 1, fb, by omega, by go_num, rfl, by rw [Hid, HS.out, HK.out, hv]; simp⟩
                · have hv := btw_f (bt t j) (bt t h) b (by omega)
                  go_roundg (t.size - (h + 1))
                  case measure => omega
                  case rel => exact ⟨rfl, h + 1, fb, by omega, by go_num, rfl, by rw [Hid, HS.out, HK.out, hv]; simp⟩
      · go_wp2
        go_ret
        exact ⟨ret_bool (by rw [hfin.out, HS.out, itI_end t b k (by omega)]; cases fb <;> cases ng <;> rfl), rfl⟩

end Go.Proofs.Qxb6601063a.Wk
