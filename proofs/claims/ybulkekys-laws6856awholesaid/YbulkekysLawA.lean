import Derived.Test.YbulkekysCheckI
import Derived.Test.YbulkekysCheckJ
namespace Go.Proofs.Ybulkekys
open Go.RowKit

theorem Yba.info4 : (Yba.prog.info? 4).map (fun i => (i.zero, i.size, i.bytes)) = some (some (.bool false), 1, 1) := by kernel_rfl

/-- The drawn edges, as far as the law reads them. -/
def EdgesAt (w : World) (a : Option Addr) (len : Nat) : Prop :=
  ∀ j, j < len → ∃ b off, a = some ⟨b, off, none⟩ ∧ b < w.heap.size ∧ ∃ x y : Nat, w.cell? ⟨b, off + j * 2, none⟩ = some (.int .u16 (x : Int)) ∧ w.cell? ⟨b, off + j * 2 + 1, none⟩ = some (.int .u16 (y : Int)) ∧ x ≤ 65535 ∧ y ≤ 65535

set_option maxHeartbeats 2000000 in
set_option maxRecDepth 100000 in
theorem lawA_small (nr : Nat) (a : Option Addr) (len cap : Nat) (w : World) (hnr : nr ≤ 65535) (hl : len ≤ 1048576) (hE : EdgesAt w a len) :
    Calls Yba.prog 3 #[.int .u16 (nr : Int), .slice a len cap] w fun e w' => e = .returned (.bool true) ∧ Below w.heap.size w w' := by
  obtain ⟨i0, hi, hz0, hz1, hz2⟩ := info_parts Yba.info4
  have hnb : decide ((1048576 : Int) < (len : Int)) = false := by simp; omega
  obtain ⟨n, hn0, hn⟩ : ∃ n : Nat, (nr : Int) % 300 = (n : Int) ∧ n ≤ 299 := ⟨nr % 300, by omega, by omega⟩
  have hnI : (n : Int) * (n : Int) = ((n * n : Nat) : Int) := by simp
  obtain ⟨nn, hnn0⟩ : ∃ nn, nn = n * n := ⟨_, rfl⟩
  have Hnn : Hid (nn = n * n) := hnn0
  have hnn : nn ≤ 89401 := by rw [hnn0]; exact I.nn_le hn
  rw [← hnn0] at hnI
  clear hnn0
  go_enter Yba.func3, Yba.ntmps3
  go_wp2_with (at_make; refine wpList_make_arr rfl _ _ 24 rfl 4 i0 (.bool false) 1 Yba.underlying24 hi hz0 hz1 hz2 rfl _ _ _ _ nn rfl rfl ?m0 ?m1 ?m2 ?m3 ?_)
  case m0 => first | rfl | omega
  case m1 => first | rfl | omega
  case m2 => omega
  case m3 => unfold maxLen; omega
  intro w1 hA1 hg1
  have hb1 : Below w.heap.size w w1 := (Below.refl _ _).grown hg1 (Nat.le_refl _) (fun k hk => by cases hk)
  have hlt1 := hA1.lt
  rw [bv_zero] at hA1
  go_upto_if 20 with (fail)
  go_cut [] (fun wd => (∃ mb, Arr wd w.heap.size 4 nn nn (bv mb)) ∧ w.heap.size < wd.heap.size ∧ Below w.heap.size w wd)
  case first =>
    by_cases hpos : 0 < n
    · rw [show decide (0 < n) = true from decide_eq_true hpos]
      go_wp2_with fail
      go_loopw [23] (fun i wr => ∃ k mb, k ≤ len ∧ i = .int .i64 (k : Nat) ∧ Arr wr w.heap.size 4 nn nn (bv mb) ∧ w.heap.size < wr.heap.size ∧ Below w.heap.size w wr) (fun i _ => len - (intOf i).toNat)
      case atStart => exact ⟨0, _, Nat.zero_le _, rfl, hA1, hlt1, hb1⟩
      case round =>
        clear hA1 hg1 hb1 hlt1
        obtain ⟨k, mb, hk, rfl, hA, hlt, hbel⟩ := hrel
        by_cases hlk : k < len
        · obtain ⟨b, off, rfl, hb, x, y, hcx, hcy, hx, hy⟩ := hE k hlk
          have ex := (hbel.cell (p := ⟨b, off + k * 2, none⟩) hb).trans hcx
          have ey := (hbel.cell (p := ⟨b, off + k * 2 + 1, none⟩) hb).trans hcy
          have hA7 := hA.alloc (.cells #[.int .u16 (x : Int), .int .u16 (y : Int)] 26)
          have hb7 : Below w.heap.size w (wr.alloc (.cells #[.int .u16 (x : Int), .int .u16 (y : Int)] 26)) := hbel.alloc (by omega) _
          have hl7 : w.heap.size < (wr.alloc (.cells #[.int .u16 (x : Int), .int .u16 (y : Int)] 26)).heap.size := by simp; omega
          have d0 : (wr.alloc (.cells #[.int .u16 (x : Int), .int .u16 (y : Int)] 26)).cell? ⟨wr.heap.size, 0, none⟩ = some (.int .u16 (x : Int)) := World.cell?_alloc_mark _ _ _ _ _
          have d1 : (wr.alloc (.cells #[.int .u16 (x : Int), .int .u16 (y : Int)] 26)).cell? ⟨wr.heap.size, 1, none⟩ = some (.int .u16 (y : Int)) := World.cell?_alloc_mark _ _ _ _ _
          go_upto_region 9 with (fail)
          generalize wr.alloc (.cells #[.int .u16 (x : Int), .int .u16 (y : Int)] 26) = w7 at *
          generalize wr.heap.size = g7 at *
          clear hA hbel
          have hn1 : ¬ n = 0 := by omega
          have hwx : IntKind.i64.wrap (x : Int) = (x : Int) := IntWalk.i64_in _ (by omega)
          have hwy : IntKind.i64.wrap (y : Int) = (y : Int) := IntWalk.i64_in _ (by omega)
          have htx : (x : Int).tmod (n : Int) = ((x % n : Nat) : Int) := by rw [Int.tmod_eq_emod_of_nonneg (by omega)]; simp
          have hty : (y : Int).tmod (n : Int) = ((y % n : Nat) : Int) := by rw [Int.tmod_eq_emod_of_nonneg (by omega)]; simp
          have hpx := Nat.mod_lt x hpos
          have hpy := Nat.mod_lt y hpos
          generalize x % n = px at *
          generalize y % n = py at *
          have hq : (px : Int) * (n : Int) = ((px * n : Nat) : Int) := by simp
          have hqb : px * n + py < nn := by rw [Hnn.out]; exact I.idx_lt hpx hpy
          generalize px * n = qq at *
          have hwq : IntKind.i64.wrap (qq : Int) = (qq : Int) := IntWalk.i64_in _ (by omega)
          have hws : IntKind.i64.wrap ((qq : Int) + (py : Int)) = (qq : Int) + (py : Int) := IntWalk.i64_in _ (by omega)
          have hq1 : (qq : Int) + (py : Int) < (nn : Int) := by omega
          have hq2 : (0 : Int) ≤ (qq : Int) + (py : Int) := by omega
          have hq3 : ((qq : Int) + (py : Int)).toNat = qq + py := by omega
          have e7 := hA7.bool (qq + py) hqb
          have f7 := hA7.fr (qq + py)
          have hA8 := hA7.drew.setBool (qq + py) true
          have hb8 : Below w.heap.size w (w7.drew.setCell ⟨w.heap.size, qq + py, none⟩ (.bool true)) := hb7.drew.setCell (p := ⟨w.heap.size, qq + py, none⟩) (Nat.le_refl _) _
          clear hA7 hb7
          refine wp_region_still_tail 15 I.mixed (by kernel_rfl) ?_
          simp only [List.take_succ_cons, List.take_zero, List.drop_succ_cons, List.drop_zero]
          repeat still_step
          refine wpStill_nil ?_
          go_wp2
          go_roundw
          case rel => exact ⟨k + 1, _, by omega, by go_num, hA8, by simpa using hl7, hb8⟩
          case measure => simp [intOf]; omega
        · go_wp2
          go_meet
          case rel => exact ⟨⟨mb, hA⟩, hlt, hbel⟩
    · go_wp2
      go_meet
      case rel => exact ⟨⟨_, hA1⟩, hlt1, hb1⟩
  case rest =>
    obtain ⟨⟨mb, hA⟩, hlt, hbel⟩ := hcut
    clear hA1 hb1 hg1 hlt1
    go_wp2_with fail
    refine (I.check_any n nn w.heap.size mb wc hn Hnn hlt hA).mono ?_
    rintro e w2 ⟨rfl, hb2⟩
    have hA2 := hA.below hb2 hlt
    have hlt2 : w.heap.size < w2.heap.size := by have := hb2.size; omega
    go_wp2_with fail
    refine (J.check_any n nn w.heap.size mb w2 hn Hnn hlt2 hA2).mono ?_
    rintro e w3 ⟨rfl, hb3⟩
    go_wp2
    go_ret
    exact ⟨rfl, hbel.trans ((hb2.mono (by omega)).trans (hb3.mono (by omega)))⟩
end Go.Proofs.Ybulkekys
