import Derived.Test.YbulkekhmWalk1
namespace Go.Proofs.Ybulkekhm
open Go.RowKit

/-- The row that '[]byte(s)' laid at block B. -/
def Laid (s : ByteArray) (B : Nat) (w : World) : Prop := ∃ c m, w.heap[B]? = some (.cells (bytesRow s c) 5 (m, m + 1))

theorem Laid.cell {s : ByteArray} {B : Nat} {w : World} (h : Laid s B w) {k : Nat} (hk : k < s.size) : w.cell? ⟨B, k, none⟩ = some (.int .u8 ((s[k]).toNat : Int)) := by
  obtain ⟨c, m, h⟩ := h
  simp only [World.cell?, h]
  exact bytesRow_at s c k hk
theorem Laid.ne {s : ByteArray} {B : Nat} {w : World} (h : Laid s B w) {base n : Nat} {v : Value} {xs : List Value} (ho : w.ownsRow base 5 1 v n xs) : some B ≠ v.ownBlock := by
  obtain ⟨c, m, h⟩ := h
  intro hv
  rcases ho.2 with ⟨rfl, _⟩ | ⟨g, cap, cur, rfl, hb, hh, _⟩
  · cases hv
  · simp only [Value.ownBlock, Option.some.injEq] at hv
    subst hv
    rw [h] at hh
    simp at hh
theorem Laid.lt {s : ByteArray} {B : Nat} {w : World} (h : Laid s B w) : B < w.heap.size := by
  obtain ⟨c, m, h⟩ := h
  exact (Array.getElem?_eq_some_iff.1 h).1
theorem Laid.grown {s : ByteArray} {B : Nat} {w w' : World} (h : Laid s B w) {base n : Nat} {v : Value} {xs : List Value} (ho : w.ownsRow base 5 1 v n xs) (hg : w.grownBy w' v.ownBlock) : Laid s B w' := by
  have hl := h.lt
  have hn := h.ne ho
  obtain ⟨c, m, h⟩ := h
  exact ⟨c, m, (hg.block B hl hn).trans h⟩

set_option maxHeartbeats 1000000 in
set_option maxRecDepth 100000 in
theorem localPart_any (s : ByteArray) (w : World) (hs : s.size ≤ 1048576) :
    Calls Yba.prog 4 #[.string s] w fun e w' => e = .returned (.string (strOfNums (outN s s.size))) ∧ Below w.heap.size w w' := by
  obtain ⟨i0, hi, hz0, hz1, hz2⟩ := info_parts Yba.info5
  have hcv := fun w s => run_bytes_of_string (P := Yba.prog) w 9 24 5 s Yba.underlying9 Yba.underlying24 Yba.underlying5
  go_enter Yba.func4, Yba.ntmps4
  go_wp2_with (at_make; refine wpList_make_own _ rfl _ _ 24 rfl w.heap.size 5 i0 (.int .u8 0) 1 Yba.underlying24 hi hz0 hz1 _ _ _ s.size rfl rfl ?m1 ?m2 ?m3 ?m4 ?_)
  case m1 => omega
  case m2 => rw [hz2]; omega
  case m3 => unfold maxLen; omega
  case m4 => exact Nat.le_refl _
  intro w1 hown1 hgr1
  have hb1 : Below w.heap.size w w1 := (Below.refl _ _).grown hgr1 (Nat.le_refl _) (fun k hk => by cases hk)
  have hL0 : ∀ c m, Laid s w1.heap.size ((w1.alloc (.cells (bytesRow s c) 5 (m, m + 1))).drew) := fun c m => ⟨c, m, heap_alloc_new w1 _⟩
  have hb0 : ∀ c m, Below w.heap.size w ((w1.alloc (.cells (bytesRow s c) 5 (m, m + 1))).drew) := fun c m => (hb1.alloc hb1.size _).drew
  have ho0 : ∀ c m, ((w1.alloc (.cells (bytesRow s c) 5 (m, m + 1))).drew).ownsRow w.heap.size 5 1 (.slice (some ⟨w.heap.size, 0, none⟩) 0 s.size) 0 [] := fun c m => (hown1.alloc _).drew
  clear hown1 hgr1
  go_wp2_with fail
  generalize grownCap w1 s.size 0 5 = cp at *
  go_loopw [3, 12] (fun v j wr => ∃ k : Nat, k ≤ s.size ∧ j = .int .i64 k ∧ wr.ownsRow w.heap.size 5 1 v (outN s k).length ((outN s k).map (Value.int .u8)) ∧ Laid s w1.heap.size wr ∧ Below w.heap.size w wr)
    (fun _ j _ => s.size - (intOf j).toNat)
  case atStart => exact ⟨0, Nat.zero_le _, rfl, ho0 _ _, hL0 _ _, hb0 _ _⟩
  case round =>
    clear hL0 hb0 ho0 hcv
    obtain ⟨k, hk, rfl, hown, hL, hbel⟩ := hrel
    have hbs := hbel.size
    have hol := outN_le s k
    by_cases hlt : k < s.size
    · have HA : Hid (at_ s k = ((s[k]).toNat : Int)) := at_eq hlt
      have hcell := hL.cell hlt
      by_cases h32 : at_ s k = 32
      · have e32 : (((s[k]).toNat : Int) == 32) = true := by rw [← HA.out, h32]; rfl
        cases hp : prevB s k
        · have HO : Hid (outN s (k + 1) = outN s k ++ [46]) := outN_blank1 h32 hp
          clear h32
          cases k with
          | zero =>
            clear hp
            go_wp2_with (at_builtin; refine wpList_append_one rfl (.tmp 37) (.tmp 38) 24 rfl w.heap.size 5 i0 (.int .u8 0) 1 Yba.underlying24 hi hz0 hz1 hz2 rfl _ _ _ rfl hown rfl rfl ?c3 ?c4 ?c5 ?_)
            case c3 => unfold maxLen; omega
            case c4 => omega
            case c5 => omega
            intro v' w' hown' hg'
            have hbel' := hbel.grown hg' hbs (fun k hk => (hown.lt k hk).1)
            have hL' := hL.grown hown hg'
            have hown2 : w'.ownsRow w.heap.size 5 1 v' (outN s (0 + 1)).length ((outN s (0 + 1)).map (Value.int .u8)) := by rw [HO.out]; simpa using hown'
            clear hown' hown hg'
            go_wp2
            go_roundw
            case rel => exact ⟨0 + 1, by omega, by go_num, hown2, hL', hbel'⟩
            case measure => simp [intOf]; omega
          | succ j =>
            have hpj : (((s[j]).toNat : Int) == 32) = false := by
              have := hp
              simp only [prevB, at_eq (show j < s.size by omega)] at this
              exact this
            clear hp
            go_wp2_with (at_builtin; refine wpList_append_one rfl (.tmp 37) (.tmp 38) 24 rfl w.heap.size 5 i0 (.int .u8 0) 1 Yba.underlying24 hi hz0 hz1 hz2 rfl _ _ _ rfl hown rfl rfl ?d3 ?d4 ?d5 ?_)
            case d3 => unfold maxLen; omega
            case d4 => omega
            case d5 => omega
            intro v' w' hown' hg'
            have hbel' := hbel.grown hg' hbs (fun k hk => (hown.lt k hk).1)
            have hL' := hL.grown hown hg'
            have hown2 : w'.ownsRow w.heap.size 5 1 v' (outN s (j + 1 + 1)).length ((outN s (j + 1 + 1)).map (Value.int .u8)) := by rw [HO.out]; simpa using hown'
            clear hown' hown hg'
            go_wp2
            go_roundw
            case rel => exact ⟨j + 1 + 1, by omega, by go_num, hown2, hL', hbel'⟩
            case measure => simp [intOf]; omega
        · have HO : Hid (outN s (k + 1) = outN s k) := outN_blank2 h32 hp
          clear h32
          have hown2 : wr.ownsRow w.heap.size 5 1 u3 (outN s (k + 1)).length ((outN s (k + 1)).map (Value.int .u8)) := by rw [HO.out]; exact hown
          cases k with
          | zero => simp [prevB] at hp
          | succ j =>
            have hpj : (((s[j]).toNat : Int) == 32) = true := by
              have := hp
              simp only [prevB, at_eq (show j < s.size by omega)] at this
              exact this
            clear hp hown
            go_wp2
            go_roundw
            case rel => exact ⟨j + 1 + 1, by omega, by go_num, hown2, hL, hbel⟩
            case measure => simp [intOf]; omega
      · have HK1 : Hid (keepB (at_ s k) = true → outN s (k + 1) = outN s k ++ [at_ s k]) := outN_keep h32
        have HK0 : Hid (keepB (at_ s k) = false → outN s (k + 1) = outN s k ++ [95]) := outN_drop h32
        have e32 : (((s[k]).toNat : Int) == 32) = false := by rw [← HA.out]; simp [h32]
        clear h32
        rw [HA.out] at HK1 HK0
        have HKE : Hid (keepB ((s[k]).toNat : Int) = (alB ((s[k]).toNat : Int) || (((s[k]).toNat : Int) == 46) || (((s[k]).toNat : Int) == 45))) := rfl
        go_upto_region 9 with (fail)
        go_cut [40] (fun c wc => wc = wr ∧ c = .bool (keepB ((s[k]).toNat : Int)))
        case first =>
          cases hal : alB ((s[k]).toNat : Int)
          · cases h46 : (((s[k]).toNat : Int) == 46)
            all_goals
              go_wp2_with (go_at_call 6; refine (isAlnum_any _ _).mono ?_; rintro e w' ⟨rfl, rfl⟩; rw [hal])
              go_meet
              case rel => exact ⟨rfl, by rw [HKE.out, hal, h46]; simp⟩
          · go_wp2_with (go_at_call 6; refine (isAlnum_any _ _).mono ?_; rintro e w' ⟨rfl, rfl⟩; rw [hal])
            go_meet
            case rel => exact ⟨rfl, by rw [HKE.out, hal]; simp⟩
        case rest =>
          obtain ⟨rfl, rfl⟩ := hcut
          clear HKE e32
          cases hkb : keepB ((s[k]).toNat : Int)
          · have HO : Hid (outN s (k + 1) = outN s k ++ [95]) := HK0.out hkb
            go_wp2_with (at_builtin; refine wpList_append_one rfl (.tmp 17) (.tmp 18) 24 rfl w.heap.size 5 i0 (.int .u8 0) 1 Yba.underlying24 hi hz0 hz1 hz2 rfl _ _ _ rfl hown rfl rfl ?e3 ?e4 ?e5 ?_)
            case e3 => unfold maxLen; omega
            case e4 => omega
            case e5 => omega
            intro v' w' hown' hg'
            have hbel' := hbel.grown hg' hbs (fun k hk => (hown.lt k hk).1)
            have hL' := hL.grown hown hg'
            have hown2 : w'.ownsRow w.heap.size 5 1 v' (outN s (k + 1)).length ((outN s (k + 1)).map (Value.int .u8)) := by rw [HO.out]; simpa using hown'
            clear hown' hown hg'
            go_wp2
            go_roundw
            case rel => exact ⟨k + 1, by omega, by go_num, hown2, hL', hbel'⟩
            case measure => simp [intOf]; omega
          · have HO : Hid (outN s (k + 1) = outN s k ++ [((s[k]).toNat : Int)]) := HK1.out hkb
            go_wp2_with (at_builtin; refine wpList_append_one rfl (.tmp 51) (.tmp 53) 24 rfl w.heap.size 5 i0 (.int .u8 0) 1 Yba.underlying24 hi hz0 hz1 hz2 rfl _ _ _ rfl hown rfl rfl ?f3 ?f4 ?f5 ?_)
            case f3 => unfold maxLen; omega
            case f4 => omega
            case f5 => omega
            intro v' w' hown' hg'
            have hbel' := hbel.grown hg' hbs (fun k hk => (hown.lt k hk).1)
            have hL' := hL.grown hown hg'
            have hown2 : w'.ownsRow w.heap.size 5 1 v' (outN s (k + 1)).length ((outN s (k + 1)).map (Value.int .u8)) := by rw [HO.out]; simpa using hown'
            clear hown' hown hg'
            go_wp2
            go_roundw
            case rel => exact ⟨k + 1, by omega, by go_num, hown2, hL', hbel'⟩
            case measure => simp [intOf]; omega
    · have hconv := run_convert_owned hown
      clear hown
      go_wp2
      go_ret
      obtain rfl : k = s.size := by omega
      exact ⟨rfl, hbel⟩

set_option maxHeartbeats 400000 in
theorem law_any (s : ByteArray) (w : World) :
    Calls Yba.prog 3 #[.string s] w fun e w' => e = .returned (.bool true) ∧ Below w.heap.size w w' := by
  by_cases hs : s.size ≤ 1048576
  · go_enter Yba.func3, Yba.ntmps3
    go_wp2_with fail
    refine (localPart_any s _ hs).mono ?_
    rintro e w1 ⟨rfl, hb1⟩
    go_wp2_with fail
    refine (model_any s _ hs).mono ?_
    rintro e w2 ⟨rfl, hb2⟩
    go_wp2
    go_ret
    exact ⟨rfl, hb1.trans (hb2.mono hb1.size)⟩
  · go_enter Yba.func3, Yba.ntmps3
    go_wp2
    go_ret
    exact ⟨rfl, Below.refl _ _⟩
end Go.Proofs.Ybulkekhm
