import Derived.Test.YbulkekgyLex
namespace Go.Proofs.Ybulkekgy
open Go.RowKit

set_option maxHeartbeats 1000000 in
set_option maxRecDepth 100000 in
theorem number_any (b : Nat) (s : ByteArray) (i : Nat) (ln : Int) (al : Bool) (mk : Int) (w : World) (hs' : s.size ≤ 1048576) (hi : i ≤ s.size) (hL : Lex b s i ln al mk w) :
    Calls Yba.prog 4 #[.pointer (some ⟨b, 0, none⟩)] w fun e w' => e = .returned (.string (s.extract i (endN s i))) ∧ Lex b s (endN s i) ln al mk w' ∧ Only b w w' := by
  have hs : s.size ≤ maxLen := by unfold maxLen; omega
  have HE : Hid (endN s i = expN s (fracN s (skipN s i))) := rfl
  have HG : Hid (i ≤ endN s i ∧ endN s i ≤ s.size) := ⟨endN_ge s i, endN_le s i hi⟩
  have h0 := skipN_le s i hi
  have HI := fun n wq => isDigit_any n wq
  go_enter Yba.func4, Yba.ntmps4
  have c1 := hL.c1
  go_wp2_with fail
  refine (digits_any b s i ln al mk _ hs hi hL).mono ?_
  rintro e w1 ⟨rfl, hL1, hO1⟩
  clear c1 hL
  generalize skipN s i = e0 at *
  go_upto_region 3 with (fail)
  go_cut [46] (fun c wc => c = .bool (fracB s e0) ∧ Lex b s e0 ln al mk wc ∧ Only b w wc)
  case first =>
    have c0 := hL1.c0
    have c1 := hL1.c1
    by_cases h1 : e0 + 1 < s.size
    · have h1i : (e0 : Int) + 1 < (s.size : Int) := by omega
      have h1n : e0 < s.size := by omega
      have h1z : (0 : Int) ≤ (e0 : Int) + 1 := by omega
      by_cases h2 : ((s[e0]).toNat : Int) = 46
      · have hf : Hid (fracB s e0 = digB ((s[e0 + 1]).toNat : Int)) := fracB_dig h1 h2
        have h2' : (((s[e0]).toNat : Int) == 46) = true := by simp [h2]
        clear h2
        go_quiet ((go_at_call 7; exact Calls.quiet_of_same (HI _ _)))
        go_wp2
        go_meet
        case rel => exact ⟨by rw [hf.out], hL1.drewN _, hO1.drewN _⟩
      · have hf : Hid (fracB s e0 = false) := fracB_no2 (by omega) h2
        have h2' : (((s[e0]).toNat : Int) == 46) = false := by simp [h2]
        clear h2
        go_quiet (fail)
        go_wp2
        go_meet
        case rel => exact ⟨by rw [hf.out], hL1.drewN _, hO1.drewN _⟩
    · have hf : Hid (fracB s e0 = false) := fracB_no1 h1
      have h1i : decide ((e0 : Int) + 1 < (s.size : Int)) = false := by simp; omega
      go_quiet (fail)
      go_wp2
      go_meet
      case rel => exact ⟨by rw [hf.out], hL1.drewN _, hO1.drewN _⟩
  case rest =>
    obtain ⟨rfl, hL2, hO2⟩ := hcut
    clear hL1 hO1
    go_upto_if 46 with (fail)
    go_cut [] (fun wd => Lex b s (fracN s e0) ln al mk wd ∧ Only b w wd)
    case first =>
      have c1 := hL2.c1
      have f1 := hL2.f1
      have HF : Hid (fracN s e0 = if fracB s e0 = true then skipN s (e0 + 1) else e0) := fracN_eq s e0
      cases hfb : fracB s e0
      · go_wp2
        go_meet
        case rel => exact ⟨by rw [HF.out, if_neg (by simp [hfb])]; exact hL2, hO2⟩
      · have hlt := fracB_lt hfb
        go_wp2_with fail
        refine (digits_any b s (e0 + 1) ln al mk _ hs (by omega) (hL2.set (e0 + 1))).mono ?_
        rintro e w1 ⟨rfl, hL3, hO3⟩
        go_wp2
        go_meet
        case rel => exact ⟨by rw [HF.out, if_pos hfb]; exact hL3, (hO2.set _ _).trans hO3⟩
    case rest =>
      obtain ⟨hL3, hO3⟩ := hcut
      clear hL2 hO2
      have h1 := fracN_le s e0 h0
      generalize fracN s e0 = e1 at *
      go_upto_region 6 with (fail)
      go_cut [89] (fun c wd => c = .bool (expB s e1) ∧ Lex b s e1 ln al mk wd ∧ Only b w wd)
      case first =>
        have c0 := hL3.c0
        have c1 := hL3.c1
        by_cases hl1 : e1 < s.size
        · have HB : Hid (expB s e1 = ((((s[e1]).toNat : Int) == 101) || (((s[e1]).toNat : Int) == 69))) := expB_in hl1
          cases hb : (((s[e1]).toNat : Int) == 101)
          all_goals
            go_quiet (fail)
            go_wp2
            go_meet
            case rel => exact ⟨by rw [HB.out, hb]; simp, hL3.drewN _, hO3.drewN _⟩
        · have HB : Hid (expB s e1 = false) := expB_out hl1
          go_quiet (fail)
          go_wp2
          go_meet
          case rel => exact ⟨by rw [HB.out], hL3.drewN _, hO3.drewN _⟩
      case rest =>
        obtain ⟨rfl, hL4, hO4⟩ := hcut
        clear hL3 hO3
        have HX : Hid (expN s e1 = if expB s e1 = true then (if digB (at_ s (signN s (e1 + 1))) = true then skipN s (signN s (e1 + 1)) else e1) else e1) := expN_eq s e1
        go_upto_if 89 with (fail)
        go_cut [] (fun wd => Lex b s (endN s i) ln al mk wd ∧ Only b w wd)
        case rest =>
          obtain ⟨hL5, hO5⟩ := hcut
          clear hL4 hO4
          have c0 := hL5.c0
          have c1 := hL5.c1
          have hg := HG.out
          have hg1 := hg.1
          have hg2 := hg.2
          clear hg
          go_upto_region 13 with (fail)
          go_quiet (fail)
          go_wp2
          go_ret
          exact ⟨rfl, hL5.drewN _, hO5.drewN _⟩
        case first =>
          cases hx : expB s e1
          · go_wp2
            go_meet
            case rel => exact ⟨by rw [HE.out, HX.out, if_neg (by simp [hx])]; exact hL4, hO4⟩
          · have hl1 := expB_lt hx
            have HX2 : Hid (endN s i = (if digB (at_ s (signN s (e1 + 1))) = true then skipN s (signN s (e1 + 1)) else e1)) := by
              have h := HX.out
              rw [if_pos hx] at h
              exact HE.out.trans h
            clear HX HE hx
            have c0 := hL4.c0
            have c1 := hL4.c1
            go_upto_region 8 with (fail)
            go_cut [119] (fun c wd => wd = wc ∧ c = .bool (sgnB s (e1 + 1)))
            case first =>
              by_cases hl2 : e1 + 1 < s.size
              · have HB : Hid (sgnB s (e1 + 1) = ((((s[e1 + 1]).toNat : Int) == 43) || (((s[e1 + 1]).toNat : Int) == 45))) := sgnB_in hl2
                cases hb : (((s[e1 + 1]).toNat : Int) == 43)
                all_goals
                  go_wp2
                  go_meet
                  case rel => exact ⟨rfl, by rw [HB.out, hb]; simp⟩
              · have HB : Hid (sgnB s (e1 + 1) = false) := sgnB_out hl2
                go_wp2
                go_meet
                case rel => exact ⟨rfl, by rw [HB.out]⟩
            case rest =>
              obtain ⟨rfl, rfl⟩ := hcut
              go_upto_if 119 with (fail)
              go_cut [4] (fun c wd => wd = wc ∧ c = .int .i64 (signN s (e1 + 1)))
              case first =>
                have HF : Hid (signN s (e1 + 1) = if sgnB s (e1 + 1) = true then e1 + 1 + 1 else e1 + 1) := signN_eq s (e1 + 1)
                cases hb : sgnB s (e1 + 1)
                · go_wp2
                  go_meet
                  case rel => exact ⟨rfl, by rw [HF.out, if_neg (by simp [hb])]; go_num⟩
                · have hlt := sgnB_lt hb
                  go_wp2
                  go_meet
                  case rel => exact ⟨rfl, by rw [HF.out, if_pos hb]; go_num⟩
              case rest =>
                obtain ⟨rfl, rfl⟩ := hcut
                have h2 : signN s (e1 + 1) ≤ s.size := signN_le (by omega)
                generalize signN s (e1 + 1) = e2 at *
                go_upto_region 10 with (fail)
                go_cut [137] (fun c wd => wd = wc ∧ c = .bool (digB (at_ s e2)))
                case first =>
                  by_cases hl2 : e2 < s.size
                  · have HB : Hid (at_ s e2 = ((s[e2]).toNat : Int)) := at_eq hl2
                    go_wp2_with (go_at_call 7; refine (isDigit_any _ _).mono ?_; rintro e w' ⟨rfl, rfl⟩)
                    go_meet
                    case rel => exact ⟨rfl, by rw [HB.out]⟩
                  · have HB : Hid (digB (at_ s e2) = false) := digB_out hl2
                    go_wp2
                    go_meet
                    case rel => exact ⟨rfl, by rw [HB.out]⟩
                case rest =>
                  obtain ⟨rfl, rfl⟩ := hcut
                  have f1 := hL4.f1
                  go_upto_if 137 with (fail)
                  cases hb : digB (at_ s e2)
                  · go_wp2
                    go_meet
                    case rel => exact ⟨by rw [HX2.out, if_neg (by simp [hb])]; exact hL4, hO4⟩
                  · have hlt := digB_lt hb
                    go_wp2_with fail
                    refine (digits_any b s e2 ln al mk _ hs h2 (hL4.set e2)).mono ?_
                    rintro e w1 ⟨rfl, hL5, hO5⟩
                    go_wp2
                    go_meet
                    case rel => exact ⟨by rw [HX2.out, if_pos hb]; exact hL5, (hO4.set _ _).trans hO5⟩
end Go.Proofs.Ybulkekgy
