import Derived.Test.YbulkekgyChecked
import Derived.Test.YbulkekgyPlain
import Derived.WalkKit
namespace Go.Proofs.Ybulkekgy
open Go.RowKit

theorem isDigit_any (n : Int) (w : World) :
    Calls Yba.prog 7 #[.int .u8 n] w fun e w' => e = .returned (.bool (digB n)) ∧ w' = w := by
  rcases digB_cases n with ⟨h, h1, h2⟩ | ⟨h, h1⟩ | ⟨h, h1⟩ <;> rw [h] <;> clear h
  all_goals
    go_enter Yba.func7, Yba.ntmps7
    go_wp2
    go_ret
    exact ⟨by first | rfl | (simp; omega), rfl⟩

theorem zzdigit_any (n : Int) (w : World) :
    Calls Yba.prog 9 #[.int .u8 n] w fun e w' => e = .returned (.bool (digB n)) ∧ w' = w := by
  rcases digB_cases n with ⟨h, h1, h2⟩ | ⟨h, h1⟩ | ⟨h, h1⟩ <;> rw [h] <;> clear h
  all_goals
    go_enter Yba.func9, Yba.ntmps9
    go_wp2
    go_ret
    exact ⟨by first | rfl | (simp; omega), rfl⟩

set_option maxHeartbeats 400000 in
theorem skip_any (s : ByteArray) (i : Nat) (w : World) (hs : s.size ≤ maxLen) (hi : i ≤ s.size) :
    Calls Yba.prog 8 #[.string s, .int .i64 (i : Int)] w fun e w' => e = .returned (.int .i64 (skipN s i)) ∧ w' = w := by
  unfold maxLen at hs
  go_enter Yba.func8, Yba.ntmps8
  go_wp2
  go_loop [1] (fun t => ∃ k : Nat, k ≤ s.size ∧ t = .int .i64 k ∧ skipN s k = skipN s i) (fun t => s.size - (intOf t).toNat)
  case atStart => exact ⟨i, hi, rfl, rfl⟩
  case round =>
    obtain ⟨k, hk, rfl, hsk⟩ := hrel
    have HS : Hid (skipN s k = skipN s i) := hsk
    clear hsk
    by_cases hlt : k < s.size
    · have hy := skipN_yes s k hlt
      have hn := skipN_no s k hlt
      rw [at_eq hlt] at hy hn
      have HY : Hid (digB ((s[k]).toNat : Int) = true → skipN s k = skipN s (k + 1)) := hy
      have HN : Hid (digB ((s[k]).toNat : Int) = false → skipN s k = k) := hn
      clear hy hn
      cases hd : digB ((s[k]).toNat : Int)
      · go_wp2_with (go_at_call 9; refine (zzdigit_any _ _).mono ?_; rintro e w' ⟨rfl, rfl⟩; rw [hd])
        go_ret
        refine ⟨?_, rfl⟩
        rw [← HS.out, HN.out hd]
        rfl
      · go_wp2_with (go_at_call 9; refine (zzdigit_any _ _).mono ?_; rintro e w' ⟨rfl, rfl⟩; rw [hd])
        go_round
        case rel => exact ⟨k + 1, by omega, by go_num, by rw [← HY.out hd]; exact HS.out⟩
        case measure => simp [intOf]; omega
    · have hk2 := skipN_end s k hlt
      have HK : Hid (skipN s k = k) := hk2
      clear hk2
      go_wp2
      go_ret
      refine ⟨?_, rfl⟩
      rw [← HS.out, HK.out]
      rfl
end Go.Proofs.Ybulkekgy
