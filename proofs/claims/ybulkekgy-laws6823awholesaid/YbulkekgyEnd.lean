import Derived.Test.YbulkekgyLeaf
import Derived.Deep.Cut
import Derived.Deep.DeepCutAuto
namespace Go.Proofs.Ybulkekgy
open Go.RowKit

set_option maxHeartbeats 400000 in
theorem end_any (s : ByteArray) (i : Nat) (w : World) (hs : s.size ≤ maxLen) (hi : i ≤ s.size) :
    Calls Yba.prog 5 #[.string s, .int .i64 (i : Int)] w fun e w' => e = .returned (.int .i64 (endN s i)) ∧ w' = w := by
  have hs' := hs
  unfold maxLen at hs'
  have HE : Hid (endN s i = expN s (fracN s (skipN s i))) := rfl
  have h0 := skipN_le s i hi
  go_enter Yba.func5, Yba.ntmps5
  go_wp2_with fail
  refine (skip_any s i _ hs hi).mono ?_
  rintro e w' ⟨rfl, rfl⟩
  generalize skipN s i = e0 at *
  go_upto_region 2 with (fail)
  go_cut [27] (fun c wc => wc = w' ∧ c = .bool (fracB s e0))
  case first =>
    by_cases h1 : e0 + 1 < s.size
    · by_cases h2 : ((s[e0]).toNat : Int) = 46
      · have hf : Hid (fracB s e0 = digB ((s[e0 + 1]).toNat : Int)) := fracB_dig h1 h2
        have h2' : (((s[e0]).toNat : Int) == 46) = true := by simp [h2]
        clear h2
        go_wp2_with (go_at_call 9; refine (zzdigit_any _ _).mono ?_; rintro e w' ⟨rfl, rfl⟩)
        go_meet
        case rel => exact ⟨rfl, by rw [hf.out]⟩
      · have hf : Hid (fracB s e0 = false) := fracB_no2 (by omega) h2
        have h2' : (((s[e0]).toNat : Int) == 46) = false := by simp [h2]
        clear h2
        go_wp2
        go_meet
        case rel => exact ⟨rfl, by rw [hf.out]⟩
    · have hf : Hid (fracB s e0 = false) := fracB_no1 h1
      go_wp2
      go_meet
      case rel => exact ⟨rfl, by rw [hf.out]⟩
  case rest =>
    obtain ⟨rfl, rfl⟩ := hcut
    go_upto_if 27 with (fail)
    go_cut [5] (fun c wd => wd = wc ∧ c = .int .i64 (fracN s e0))
    case first =>
      have HF : Hid (fracN s e0 = if fracB s e0 = true then skipN s (e0 + 1) else e0) := fracN_eq s e0
      cases hfb : fracB s e0
      · go_wp2
        go_meet
        case rel => exact ⟨rfl, by rw [HF.out, if_neg (by simp [hfb])]⟩
      · have hlt := fracB_lt hfb
        go_wp2_with fail
        rw [show ((e0 : Int) + 1) = ((e0 + 1 : Nat) : Int) from by omega]
        refine (skip_any s (e0 + 1) _ hs (by omega)).mono ?_
        rintro e w' ⟨rfl, rfl⟩
        go_wp2
        go_meet
        case rel => exact ⟨rfl, by rw [HF.out, if_pos hfb]⟩
    case rest =>
      obtain ⟨rfl, rfl⟩ := hcut
      have h1 := fracN_le s e0 h0
      generalize fracN s e0 = e1 at *
      go_upto_region 4 with (fail)
      go_cut [42] (fun c wd => wd = wc ∧ c = .bool (expB s e1))
      case first =>
        by_cases hl1 : e1 < s.size
        · have HB : Hid (expB s e1 = ((((s[e1]).toNat : Int) == 101) || (((s[e1]).toNat : Int) == 69))) := expB_in hl1
          go_wp2
          go_meet
          case rel => exact ⟨rfl, by rw [HB.out, ← or32]⟩
        · have HB : Hid (expB s e1 = false) := expB_out hl1
          go_wp2
          go_meet
          case rel => exact ⟨rfl, by rw [HB.out]⟩
      case rest =>
        obtain ⟨rfl, rfl⟩ := hcut
        have HX : Hid (expN s e1 = if expB s e1 = true then (if digB (at_ s (signN s (e1 + 1))) = true then skipN s (signN s (e1 + 1)) else e1) else e1) := expN_eq s e1
        go_upto_if 42 with (fail)
        cases hx : expB s e1
        · go_wp2
          go_ret
          refine ⟨?_, rfl⟩
          rw [HE.out, HX.out, if_neg (by simp [hx])]
          rfl
        · have hl1 := expB_lt hx
          have HX2 : Hid (endN s i = (if digB (at_ s (signN s (e1 + 1))) = true then skipN s (signN s (e1 + 1)) else e1)) := by
            have h := HX.out
            rw [if_pos hx] at h
            exact HE.out.trans h
          clear HX HE hx
          go_upto_region 6 with (fail)
          go_cut [60] (fun c wd => wd = wc ∧ c = .bool (sgnB s (e1 + 1)))
          case first =>
            by_cases hl2 : e1 + 1 < s.size
            · have HB : Hid (sgnB s (e1 + 1) = ((((s[e1 + 1]).toNat : Int) == 43) || (((s[e1 + 1]).toNat : Int) == 45))) := sgnB_in hl2
              cases hb : (((s[e1 + 1]).toNat : Int) == 43)
              all_goals
                go_wp2
                go_meet
                case rel => exact ⟨rfl, by rw [HB.out, hb]; simp⟩
            · have HB : Hid (sgnB s (e1 + 1) = false) := sgnB_out hl2
              go_wp2
              go_meet
              case rel => exact ⟨rfl, by rw [HB.out]⟩
          case rest =>
            obtain ⟨rfl, rfl⟩ := hcut
            go_upto_if 60 with (fail)
            go_cut [6] (fun c wd => wd = wc ∧ c = .int .i64 (signN s (e1 + 1)))
            case first =>
              have HF : Hid (signN s (e1 + 1) = if sgnB s (e1 + 1) = true then e1 + 1 + 1 else e1 + 1) := signN_eq s (e1 + 1)
              cases hb : sgnB s (e1 + 1)
              · go_wp2
                go_meet
                case rel => exact ⟨rfl, by rw [HF.out, if_neg (by simp [hb])]; go_num⟩
              · have hlt := sgnB_lt hb
                go_wp2
                go_meet
                case rel => exact ⟨rfl, by rw [HF.out, if_pos hb]; go_num⟩
            case rest =>
              obtain ⟨rfl, rfl⟩ := hcut
              have h2 : signN s (e1 + 1) ≤ s.size := signN_le (by omega)
              generalize signN s (e1 + 1) = e2 at *
              go_upto_region 8 with (fail)
              go_cut [72] (fun c wd => wd = wc ∧ c = .bool (digB (at_ s e2)))
              case first =>
                by_cases hl2 : e2 < s.size
                · have HB : Hid (at_ s e2 = ((s[e2]).toNat : Int)) := at_eq hl2
                  go_wp2_with (go_at_call 9; refine (zzdigit_any _ _).mono ?_; rintro e w' ⟨rfl, rfl⟩)
                  go_meet
                  case rel => exact ⟨rfl, by rw [HB.out]⟩
                · have HB : Hid (digB (at_ s e2) = false) := digB_out hl2
                  go_wp2
                  go_meet
                  case rel => exact ⟨rfl, by rw [HB.out]⟩
              case rest =>
                obtain ⟨rfl, rfl⟩ := hcut
                go_upto_if 72 with (fail)
                cases hb : digB (at_ s e2)
                · go_wp2
                  go_ret
                  refine ⟨?_, rfl⟩
                  rw [HX2.out, if_neg (by simp [hb])]
                  rfl
                · have hlt := digB_lt hb
                  go_wp2_with (go_at_call 8; refine (skip_any s e2 _ hs h2).mono ?_; rintro e w' ⟨rfl, rfl⟩)
                  go_ret
                  refine ⟨?_, rfl⟩
                  rw [HX2.out, if_pos hb]
                  rfl
end Go.Proofs.Ybulkekgy
