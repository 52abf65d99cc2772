import Derived.Test.YbulkekhmChecked
import Derived.Test.YbulkekhmPlain
import Derived.Test.YbulkekhmOwn
import Derived.WalkKit
import Derived.Deep.Cut
import Derived.Deep.DeepCutAuto
namespace Go.Proofs.Ybulkekhm
open Go.RowKit

theorem Yba.info5 : (Yba.prog.info? 5).map (fun i => (i.zero, i.size, i.bytes)) = some (some (.int .u8 0), 1, 1) := by kernel_rfl

theorem isAlnum_any (n : Int) (w : World) :
    Calls Yba.prog 6 #[.int .u8 n] w fun e w' => e = .returned (.bool (alB n)) ∧ w' = w := by
  rcases al_cases n with ⟨h, h1, h2⟩ | ⟨h, h1, h2⟩ | ⟨h, h1, h2⟩ | ⟨h, h1⟩ | ⟨h, h1, h2⟩ | ⟨h, h1, h2⟩ | ⟨h, h1⟩ <;> rw [h] <;> clear h
  all_goals
    go_enter Yba.func6, Yba.ntmps6
    go_wp2
    go_ret
    exact ⟨by first | rfl | (simp; omega), rfl⟩

/-- What the call owns, read as a string. -/
theorem run_convert_owned {w : World} {base n : Nat} {v : Value} {xs : List Int} (h : w.ownsRow base 5 1 v n (xs.map (Value.int .u8))) :
    (convert 24 9 v).run Yba.prog w = .ok (.string (strOfNums xs)) w := by
  have hl : xs.length = n := by simpa using h.1
  rcases h.2 with ⟨rfl, rfl⟩ | ⟨g, cap, cur, rfl, hb, hh, rest⟩
  · have : xs = [] := List.eq_nil_of_length_eq_zero hl
    subst this
    exact run_convert_bytes_nil (P := Yba.prog) w 24 5 Yba.underlying24 Yba.underlying5 0 0 9 Yba.underlying9
  · refine run_convert_bytes_arg (P := Yba.prog) w 24 5 Yba.underlying24 Yba.underlying5 g 0 n cap xs hl ?_ 9 Yba.underlying9
    intro i hi
    have hc := h.cells (g := g) rfl i (.int .u8 (xs.getD i 0)) (by simp [List.getElem?_eq_getElem (show i < xs.length by omega), List.getD])
    rw [Addr.add_lit] at hc
    exact hc

set_option maxHeartbeats 1000000 in
set_option maxRecDepth 100000 in
theorem model_any (s : ByteArray) (w : World) (hs : s.size ≤ 1048576) :
    Calls Yba.prog 5 #[.string s] w fun e w' => e = .returned (.string (strOfNums (outN s s.size))) ∧ Below w.heap.size w w' := by
  obtain ⟨i0, hi, hz0, hz1, hz2⟩ := info_parts Yba.info5
  go_enter Yba.func5, Yba.ntmps5
  go_wp2_with (at_make; refine wpList_make_own _ rfl _ _ 24 rfl w.heap.size 5 i0 (.int .u8 0) 1 Yba.underlying24 hi hz0 hz1 _ _ _ s.size rfl rfl ?m1 ?m2 ?m3 ?m4 ?_)
  case m1 => omega
  case m2 => rw [hz2]; omega
  case m3 => unfold maxLen; omega
  case m4 => exact Nat.le_refl _
  intro w1 hown1 hgr1
  have hb1 : Below w.heap.size w w1 := (Below.refl _ _).grown hgr1 (Nat.le_refl _) (fun k hk => by cases hk)
  go_wp2_with fail
  go_loopw [3, 4, 5] (fun v p j wr => ∃ k : Nat, k ≤ s.size ∧ j = .int .i64 k ∧ p = .bool (prevB s k) ∧ wr.ownsRow w.heap.size 5 1 v (outN s k).length ((outN s k).map (Value.int .u8)) ∧ Below w.heap.size w wr)
    (fun _ _ j _ => s.size - (intOf j).toNat)
  case atStart => exact ⟨0, Nat.zero_le _, rfl, rfl, hown1, hb1⟩
  case round =>
    clear hown1 hb1 hgr1
    obtain ⟨k, hk, rfl, rfl, hown, hbel⟩ := hrel
    have hbs := hbel.size
    have hol := outN_le s k
    by_cases hlt : k < s.size
    · have HA : Hid (at_ s k = ((s[k]).toNat : Int)) := at_eq hlt
      by_cases h32 : at_ s k = 32
      · have hp1 := prevB_yes h32
        have HP1 : Hid (prevB s (k + 1) = true) := hp1
        clear hp1
        have e32 : (((s[k]).toNat : Int) == 32) = true := by rw [← HA.out, h32]; rfl
        cases hp : prevB s k
        · have HO : Hid (outN s (k + 1) = outN s k ++ [46]) := outN_blank1 h32 hp
          clear h32 hp
          go_wp2_with (at_builtin; refine wpList_append_one rfl (.tmp 24) (.tmp 25) 24 rfl w.heap.size 5 i0 (.int .u8 0) 1 Yba.underlying24 hi hz0 hz1 hz2 rfl _ _ _ rfl hown rfl rfl ?c3 ?c4 ?c5 ?_)
          case c3 => unfold maxLen; omega
          case c4 => omega
          case c5 => omega
          intro v' w' hown' hg'
          have hbel' := hbel.grown hg' hbs (fun k hk => (hown.lt k hk).1)
          have hown2 : w'.ownsRow w.heap.size 5 1 v' (outN s (k + 1)).length ((outN s (k + 1)).map (Value.int .u8)) := by rw [HO.out]; simpa using hown'
          clear hown' hown hg'
          go_wp2
          go_roundw
          case rel => exact ⟨k + 1, by omega, by go_num, by rw [HP1.out], hown2, hbel'⟩
          case measure => simp [intOf]; omega
        · have HO : Hid (outN s (k + 1) = outN s k) := outN_blank2 h32 hp
          clear h32 hp
          have hown2 : wr.ownsRow w.heap.size 5 1 u3 (outN s (k + 1)).length ((outN s (k + 1)).map (Value.int .u8)) := by rw [HO.out]; exact hown
          clear hown
          go_wp2
          go_roundw
          case rel => exact ⟨k + 1, by omega, by go_num, by rw [HP1.out], hown2, hbel⟩
          case measure => simp [intOf]; omega
      · have HP1 : Hid (prevB s (k + 1) = false) := prevB_no h32
        have HK1 : Hid (keepB (at_ s k) = true → outN s (k + 1) = outN s k ++ [at_ s k]) := outN_keep h32
        have HK0 : Hid (keepB (at_ s k) = false → outN s (k + 1) = outN s k ++ [95]) := outN_drop h32
        have e32 : (((s[k]).toNat : Int) == 32) = false := by rw [← HA.out]; simp [h32]
        clear h32
        have HC := keep_cases ((s[k]).toNat : Int)
        rw [HA.out] at HK1 HK0
        have HC2 : Hid _ := HC
        clear HC
        go_upto_region 12 with (fail)
        go_cut [7] (fun c wc => wc = wr ∧ c = .bool (keepB ((s[k]).toNat : Int)))
        case first =>
          rcases HC2.out with ⟨h, h1, h2⟩ | ⟨h, h1, h2⟩ | ⟨h, h1, h2⟩ | ⟨h, h1⟩ | ⟨h, h1⟩ | ⟨h, h1⟩ | ⟨h, h1, h2⟩ | ⟨h, h1, h2⟩ | ⟨h, h1, h2⟩ | ⟨h, h1⟩
          all_goals
            have HH : Hid _ := h
            clear h
            go_wp2
            go_meet
            case rel => exact ⟨rfl, by rw [HH.out] <;> first | rfl | (simp; omega)⟩
        case rest =>
          obtain ⟨rfl, rfl⟩ := hcut
          clear HC2 e32
          cases hkb : keepB ((s[k]).toNat : Int)
          · have HO : Hid (outN s (k + 1) = outN s k ++ [95]) := HK0.out hkb
            go_wp2_with (at_builtin; refine wpList_append_one rfl (.tmp 62) (.tmp 63) 24 rfl w.heap.size 5 i0 (.int .u8 0) 1 Yba.underlying24 hi hz0 hz1 hz2 rfl _ _ _ rfl hown rfl rfl ?d3 ?d4 ?d5 ?_)
            case d3 => unfold maxLen; omega
            case d4 => omega
            case d5 => omega
            intro v' w' hown' hg'
            have hbel' := hbel.grown hg' hbs (fun k hk => (hown.lt k hk).1)
            have hown2 : w'.ownsRow w.heap.size 5 1 v' (outN s (k + 1)).length ((outN s (k + 1)).map (Value.int .u8)) := by rw [HO.out]; simpa using hown'
            clear hown' hown hg'
            go_wp2
            go_roundw
            case rel => exact ⟨k + 1, by omega, by go_num, by rw [HP1.out], hown2, hbel'⟩
            case measure => simp [intOf]; omega
          · have HO : Hid (outN s (k + 1) = outN s k ++ [((s[k]).toNat : Int)]) := HK1.out hkb
            go_wp2_with (at_builtin; refine wpList_append_one rfl (.tmp 58) (.tmp 60) 24 rfl w.heap.size 5 i0 (.int .u8 0) 1 Yba.underlying24 hi hz0 hz1 hz2 rfl _ _ _ rfl hown rfl rfl ?e3 ?e4 ?e5 ?_)
            case e3 => unfold maxLen; omega
            case e4 => omega
            case e5 => omega
            intro v' w' hown' hg'
            have hbel' := hbel.grown hg' hbs (fun k hk => (hown.lt k hk).1)
            have hown2 : w'.ownsRow w.heap.size 5 1 v' (outN s (k + 1)).length ((outN s (k + 1)).map (Value.int .u8)) := by rw [HO.out]; simpa using hown'
            clear hown' hown hg'
            go_wp2
            go_roundw
            case rel => exact ⟨k + 1, by omega, by go_num, by rw [HP1.out], hown2, hbel'⟩
            case measure => simp [intOf]; omega
    · have hconv := run_convert_owned hown
      clear hown
      go_wp2
      go_ret
      obtain rfl : k = s.size := by omega
      exact ⟨rfl, hbel⟩
end Go.Proofs.Ybulkekhm
