import Derived.Test.YbulkekysBuildJ
namespace Go.Proofs.Ybulkekys.J
open Go.RowKit

/-- A new row of zeros. -/
def zrow (n : Nat) : Array Value := madeCells #[.int .i32 0] n
theorem zrow_arr (w : World) (n : Nat) (hn : n ≤ maxLen) : Arr (w.alloc (.cells (zrow n) 21)) w.heap.size 21 n n (nv .i32 (List.replicate n 0)) := by
  rw [← nv_zero, ← toList_madeCells_one]
  exact World.ownsRow_lit w (zrow n) n (Nat.zero_le _) hn (by simp [zrow, madeCells])
theorem run_mk (n : Nat) (hn : n ≤ 100000) (w : World) :
    (Instr.makeSlice 73 (.int .i64 (n : Int)) (.int .i64 (n : Int))).run Yba.prog w = .ok (.slice (some ⟨w.heap.size, 0, none⟩) n n) (w.alloc (.cells (zrow n) 21)) := by
  obtain ⟨i0, hi, hz0, hz1, hz2⟩ := info_parts infoE
  have hr := run_make (P := Yba.prog) w 73 21 i0 (.int .i32 0) Yba.underlying73 hi hz0 .i64 .i64 n n (by omega) (Int.le_refl _) (by rw [hz2]; omega) (by omega)
  simp only [Int.toNat_natCast, hz1, Nat.mul_one] at hr
  exact hr

theorem mk1 (w : World) (n m : Nat) (hn : n + 1 ≤ maxLen) (hm : m ≤ maxLen) :
    G (((w.alloc (.cells (zrow (n + 1)) 21)).alloc (.cells (zrow m) 21)).alloc (.cells #[.slice (some ⟨w.heap.size, 0, none⟩) (n + 1) (n + 1), .slice (some ⟨w.heap.size + 1, 0, none⟩) m m] 76)).drew (w.heap.size + 1 + 1) w.heap.size (w.heap.size + 1) n m m (List.replicate (n + 1) 0) (List.replicate m 0) := by
  have h1 := ((zrow_arr w (n + 1) hn).alloc (.cells (zrow m) 21)).alloc (.cells #[.slice (some ⟨w.heap.size, 0, none⟩) (n + 1) (n + 1), .slice (some ⟨w.heap.size + 1, 0, none⟩) m m] 76)
  have h2 := (zrow_arr (w.alloc (.cells (zrow (n + 1)) 21)) m hm).alloc (.cells #[.slice (some ⟨w.heap.size, 0, none⟩) (n + 1) (n + 1), .slice (some ⟨w.heap.size + 1, 0, none⟩) m m] 76)
  have h3 := heap_alloc_new ((w.alloc (.cells (zrow (n + 1)) 21)).alloc (.cells (zrow m) 21)) (.cells #[.slice (some ⟨w.heap.size, 0, none⟩) (n + 1) (n + 1), .slice (some ⟨w.heap.size + 1, 0, none⟩) m m] 76)
  simp only [World.size_alloc] at h2 h3
  exact ⟨h3, h1.drew, h2.drew, by omega, by omega, by omega⟩
theorem mk2 (w : World) (n m : Nat) (hn : n + 1 ≤ maxLen) (hm : m ≤ maxLen) :
    G (((w.alloc (.cells (zrow m) 21)).alloc (.cells (zrow (n + 1)) 21)).alloc (.cells #[.slice (some ⟨w.heap.size + 1, 0, none⟩) (n + 1) (n + 1), .slice (some ⟨w.heap.size, 0, none⟩) m m] 76)).drew (w.heap.size + 1 + 1) (w.heap.size + 1) w.heap.size n m m (List.replicate (n + 1) 0) (List.replicate m 0) := by
  have h1 := (zrow_arr (w.alloc (.cells (zrow m) 21)) (n + 1) hn).alloc (.cells #[.slice (some ⟨w.heap.size + 1, 0, none⟩) (n + 1) (n + 1), .slice (some ⟨w.heap.size, 0, none⟩) m m] 76)
  have h2 := ((zrow_arr w m hm).alloc (.cells (zrow (n + 1)) 21)).alloc (.cells #[.slice (some ⟨w.heap.size + 1, 0, none⟩) (n + 1) (n + 1), .slice (some ⟨w.heap.size, 0, none⟩) m m] 76)
  have h3 := heap_alloc_new ((w.alloc (.cells (zrow m) 21)).alloc (.cells (zrow (n + 1)) 21)) (.cells #[.slice (some ⟨w.heap.size + 1, 0, none⟩) (n + 1) (n + 1), .slice (some ⟨w.heap.size, 0, none⟩) m m] 76)
  simp only [World.size_alloc] at h1 h3
  exact ⟨h3, h1.drew, h2.drew, by omega, by omega, by omega⟩
theorem below3 (w : World) (o1 o2 o3 : Obj) : Below w.heap.size w ((((w.alloc o1).alloc o2).alloc o3).drew) := ((((Below.refl _ _).alloc (Nat.le_refl _) _).alloc (by simp) _).alloc (by simp; omega) _).drew

set_option maxHeartbeats 2000000 in
set_option maxRecDepth 100000 in
theorem transposed_any (b gs go n c : Nat) (M : Nat → Nat → Bool) (S : List Nat) (w : World) (hn : n ≤ 299)
    (hG : G w b gs go n (ed M n n).length c S ((ed M n n).map Prod.snd)) (hS : Starts M n n S) :
    Calls Yba.prog 16 #[.pointer (some ⟨b, 0, none⟩), .int .i64 (n : Int)] w fun e w' =>
      ∃ b' gs' go' S', e = .returned (.pointer (some ⟨b', 0, none⟩)) ∧ G w' b' gs' go' n (ed M n n).length (ed M n n).length S' (flat (bk (ed M n n)) n) ∧ (∀ x, x ≤ n → S'.getD x 0 = tot (ed M n n) x) ∧
        w.heap.size ≤ b' ∧ w.heap.size ≤ gs' ∧ w.heap.size ≤ go' ∧ Below w.heap.size w w' := by
  have hml : (ed M n n).length ≤ 89401 := Nat.le_trans (ed_len M n n) (nn_le hn)
  have hElt := fun e he => (ed_lt M n n e he).2
  have hElt' := fun e he => (ed_lt M n n e he).1
  have hb0 := hG.box.lt
  have hgs0 := hG.st.lt
  have hgo0 := hG.out.lt
  have c0 : w.cell? ⟨b, 0, none⟩ = some (.slice (some ⟨gs, 0, none⟩) (n + 1) (n + 1)) := hG.box.cell 0
  have c1 : w.cell? ⟨b, 1, none⟩ = some (.slice (some ⟨go, 0, none⟩) (ed M n n).length c) := hG.box.cell 1
  have hmk1 := fun w => run_mk (n + 1) (by omega) w
  have hmk2 := fun w => run_mk (ed M n n).length (by omega) w
  rw [show ((n + 1 : Nat) : Int) = (n : Int) + 1 from by omega] at hmk1
  go_enter Yba.func16, Yba.ntmps16
  go_upto_region 1 with (fail)
  go_cut [5] (fun p wr => ∃ b' gs' go', p = .pointer (some ⟨b', 0, none⟩) ∧ G wr b' gs' go' n (ed M n n).length (ed M n n).length (List.replicate (n + 1) 0) (List.replicate (ed M n n).length 0) ∧ w.heap.size ≤ b' ∧ w.heap.size ≤ gs' ∧ w.heap.size ≤ go' ∧ Below w.heap.size w wr)
  case first =>
    go_region
    · go_wp2
      go_meet
      case rel => exact ⟨_, _, _, rfl, mk1 w n _ (by unfold maxLen; omega) (by unfold maxLen; omega), by omega, by omega, by omega, below3 _ _ _ _⟩
    · go_wp2
      go_meet
      case rel => exact ⟨_, _, _, rfl, mk2 w n _ (by unfold maxLen; omega) (by unfold maxLen; omega), by omega, by omega, by omega, below3 _ _ _ _⟩
  case rest =>
    obtain ⟨b', gs', go', rfl, hT, hb', hgs', hgo', hbel⟩ := hcut
    clear hmk1 hmk2
    have cc1 : wc.cell? ⟨b, 1, none⟩ = some (.slice (some ⟨go, 0, none⟩) (ed M n n).length c) := (hbel.cell (p := ⟨b, 1, none⟩) hb0).trans c1
    go_wp2_with fail
    go_loopw [29] (fun i wr => ∃ (j : Nat) (C : List Nat), j ≤ (ed M n n).length ∧ i = .int .i64 (j : Nat) ∧ Cnt ((ed M n n).take j) n C ∧ G wr b' gs' go' n (ed M n n).length (ed M n n).length C (List.replicate (ed M n n).length 0) ∧ Below w.heap.size w wr) (fun i _ => (ed M n n).length - (intOf i).toNat)
    case atStart => exact ⟨0, _, Nat.zero_le _, rfl, Cnt.start n, hT, hbel⟩
    case round =>
      clear hT hbel cc1
      obtain ⟨j, C, hj, rfl, hC, hT, hbel⟩ := hrel
      have cc0 : wr.cell? ⟨b', 0, none⟩ = some (.slice (some ⟨gs', 0, none⟩) (n + 1) (n + 1)) := hT.box.cell 0
      by_cases hlt : j < (ed M n n).length
      · obtain ⟨x, h, hE1, hE2, hE3⟩ := take_edge (ed M n n) j hlt
        have hh := hElt _ hE2
        simp only at hh
        have e1 := (hG.out.below hbel hgo0).nat j hlt
        rw [hE3] at e1
        have e2 := hT.st.nat (h + 1) (by omega)
        have f2 := hT.st.fr (h + 1)
        have hcl := hC.le (h + 1)
        rw [List.length_take] at hcl
        have hC' := hC.step x h hh
        rw [← hE1] at hC'
        have hT' := hT.setS (h + 1) (C.getD (h + 1) 0 + 1)
        have hbel' : Below w.heap.size w (wr.setCell ⟨gs', h + 1, none⟩ (.int .i32 ((C.getD (h + 1) 0 + 1 : Nat) : Int))) := hbel.setCell (p := ⟨gs', h + 1, none⟩) hgs' _
        generalize C.getD (h + 1) 0 = y at *
        have hk1 : (h : Int) + 1 < ((n : Int) + 1) := by omega
        clear hE1 hE2 hE3 hC hT hbel
        go_wp2
        go_roundw
        case rel => exact ⟨j + 1, _, by omega, by go_num, hC', hT', hbel'⟩
        case measure => simp [intOf]; omega
      · have hjm : (ed M n n).take j = ed M n n := List.take_of_length_le (by omega)
        rw [hjm] at hC
        clear hjm
        go_wp2_with fail
        go_loopw [45] (fun i wr => ∃ (v : Nat) (C : List Nat), v ≤ n ∧ i = .int .i64 (v : Nat) ∧ Sums (ed M n n) n v C ∧ G wr b' gs' go' n (ed M n n).length (ed M n n).length C (List.replicate (ed M n n).length 0) ∧ Below w.heap.size w wr) (fun i _ => n - (intOf i).toNat)
        case atStart => exact ⟨0, C, Nat.zero_le _, rfl, Sums.start hC, hT, hbel⟩
        case round =>
          clear hC hT hbel cc0 hj hlt
          obtain ⟨v, C2, hv, rfl, hSm, hT, hbel⟩ := hrel
          have cc0 : wr.cell? ⟨b', 0, none⟩ = some (.slice (some ⟨gs', 0, none⟩) (n + 1) (n + 1)) := hT.box.cell 0
          by_cases hlt : v < n
          · have e1 := hT.st.nat v (by omega)
            have e2 := hT.st.nat (v + 1) (by omega)
            have f2 := hT.st.fr (v + 1)
            have hSm' := hSm.step hlt
            have hT' := (hT.blk (w' := wr.drew) rfl rfl rfl).setS (v + 1) (C2.getD (v + 1) 0 + C2.getD v 0)
            have hbel' : Below w.heap.size w (wr.drew.setCell ⟨gs', v + 1, none⟩ (.int .i32 ((C2.getD (v + 1) 0 + C2.getD v 0 : Nat) : Int))) := hbel.drew.setCell (p := ⟨gs', v + 1, none⟩) hgs' _
            have hx1 : C2.getD v 0 ≤ 89401 := by rw [hSm.low v (Nat.le_refl _) (by omega)]; exact Nat.le_trans (tot_le _ n v (by omega) hElt) hml
            have hx2 : C2.getD (v + 1) 0 ≤ 89401 := by
              rw [hSm.high v (Nat.le_refl _) hlt]
              unfold bk
              rw [List.length_map]
              exact Nat.le_trans (List.length_filter_le _ _) hml
            generalize C2.getD v 0 = y1 at *
            generalize C2.getD (v + 1) 0 = y2 at *
            have hwk : IntKind.i64.wrap ((v : Int) + 1) = (v : Int) + 1 := IntWalk.i64_in _ (by omega)
            have hwy : IntKind.i32.wrap ((y2 : Int) + (y1 : Int)) = (y2 : Int) + (y1 : Int) := IntWalk.i32_in _ (by omega)
            have hk1 : (v : Int) + 1 < ((n : Int) + 1) := by omega
            have hk2 : v + 1 < n + 1 := by omega
            have hk3 : (0 : Int) ≤ (v : Int) + 1 := by omega
            have hk4 : (v : Int) < (n : Int) + 1 := by omega
            clear hSm hT hbel
            go_upto_region 10 with (fail)
            refine wp_region_still_tail 17 mixed (by kernel_rfl) ?_
            simp only [List.take_succ_cons, List.take_zero, List.drop_succ_cons, List.drop_zero]
            repeat still_step
            refine wpStill_nil ?_
            go_wp2
            go_roundw
            case rel => exact ⟨v + 1, _, by omega, by go_num, hSm', hT', hbel'⟩
            case measure => simp [intOf]; omega
          · obtain rfl : v = n := by omega
            have hsl := hT.slen
            have hN0 := hT.st.take v (by omega)
            have hmt : (nv .i32 C2).take v = nv .i32 (C2.take v) := by simp [nv, List.map_take]
            rw [hmt] at hN0
            clear hmt
            go_wp2_with fail
            refine (clone_any gs' v (v + 1) _ _ hN0 (nv_one _ _) (by omega)).mono ?_
            rintro e w3 ⟨gx, cx, rfl, hX, hgx, hbel3⟩
            have hL0 := Laid.start hSm
            have hlow := hSm.low
            have hws := hbel.size
            have hT3 : G w3 b' gs' go' v (ed M v v).length (ed M v v).length C2 (List.replicate (ed M v v).length 0) := hT.below hbel3 hT.box.lt hT.st.lt hT.out.lt
            have hxb : gx ≠ b' := by have := hT.box.lt; omega
            have hxs : gx ≠ gs' := by have := hT.st.lt; omega
            have hxo : gx ≠ go' := by have := hT.out.lt; omega
            have hgx' : w.heap.size ≤ gx := by omega
            have hbel' : Below w.heap.size w w3 := hbel.trans (hbel3.mono hws)
            clear hT hSm hN0 hbel hbel3 hgx hws cc0
            go_wp2_with fail
            go_loopw [74] (fun i wr => ∃ (k : Nat) (N O : List Nat), k ≤ v ∧ i = .int .i64 (k : Nat) ∧ Laid (ed M v v) (ed M v k) v N O ∧ G wr b' gs' go' v (ed M v v).length (ed M v v).length C2 O ∧ Arr wr gx 21 v cx (nv .i32 N) ∧ Below w.heap.size w wr) (fun i _ => v - (intOf i).toNat)
            case atStart => exact ⟨0, _, _, Nat.zero_le _, rfl, hL0, hT3, hX, hbel'⟩
            case round =>
              clear hL0 hT3 hX hbel'
              obtain ⟨k, N, O, hk, rfl, hL, hT, hX, hbel⟩ := hrel
              by_cases hlt : k < v
              · have hlo := hS k (by omega)
                have hhi := hS (k + 1) (by omega)
                have hse : (ed M v (k + 1)).length = (ed M v k).length + (rowTo M k v).length := by rw [ed_succ, List.length_append]
                have hple : (ed M v (k + 1)).length ≤ (ed M v v).length := (ed_pre M v (k + 1) v hlt).length_le
                have hH := fun wq (hq : Below w.heap.size w wq) => holders_any b gs go v (ed M v v).length c S _ k wq (by omega) hlt (hG.below hq hb0 hgs0 hgo0).box (hG.below hq hb0 hgs0 hgo0).st (hG.below hq hb0 hgs0 hgo0).out (by rw [hlo, hhi]; omega) (by rw [hhi]; exact hple)
                rw [hlo, hhi, hse] at hH
                obtain ⟨ad, hpart, had⟩ : ∃ ad, part go (ed M v k).length ((ed M v k).length + (rowTo M k v).length) c = .slice ad (rowTo M k v).length (c - (ed M v k).length) ∧ (0 < (rowTo M k v).length → ad = some ⟨go, (ed M v k).length, none⟩) := by
                  refine ⟨_, by unfold part; rw [Nat.add_sub_cancel_left], fun h0 => if_neg ?_⟩
                  have := hG.out.cut.1
                  omega
                rw [hpart] at hH
                have HH : Hid _ := hH
                clear hH hpart hlo hhi
                go_wp2_with fail
                refine Calls.mono (HH.out _ hbel) ?_
                rintro e w4 ⟨rfl, q4, rfl⟩
                clear HH
                have hT4 : G (wr.drewN q4) b' gs' go' v (ed M v v).length (ed M v v).length C2 O := hT.blk rfl rfl rfl
                have hX4 := hX.drewN q4
                have hbel4 := below_drewN hbel q4
                have hL4 : Laid (ed M v v) (ed M v k ++ (rowTo M k v).take 0) v N O := by simpa using hL
                have hrl := rowTo_len M k v
                clear hT hX hbel hL
                go_wp2_with fail
                generalize wr.drewN q4 = w4 at *
                go_loopw [81] (fun i wr => ∃ (i' : Nat) (N O : List Nat), i' ≤ (rowTo M k v).length ∧ i = .int .i64 (i' : Nat) ∧ Laid (ed M v v) (ed M v k ++ (rowTo M k v).take i') v N O ∧ G wr b' gs' go' v (ed M v v).length (ed M v v).length C2 O ∧ Arr wr gx 21 v cx (nv .i32 N) ∧ Below w.heap.size w wr) (fun i _ => (rowTo M k v).length - (intOf i).toNat)
                case atStart => exact ⟨0, _, _, Nat.zero_le _, rfl, hL4, hT4, hX4, hbel4⟩
                case round =>
                  clear hL4 hT4 hX4 hbel4
                  obtain ⟨i', N', O', hi', rfl, hL, hT, hX, hbel⟩ := hrel
                  by_cases hlti : i' < (rowTo M k v).length
                  · obtain ⟨h, hh, hE1, hE2, hE3⟩ := row_next M v k i' hlt hlti
                    obtain rfl := had (by omega)
                    have e1 := (hG.out.below hbel hgo0).nat ((ed M v k).length + i') (by omega)
                    rw [hE3] at e1
                    have hpl := hL.place hE2 hElt
                    have hL' := hL.step hE2 hElt
                    rw [← hE1] at hL'
                    have e2 := hX.nat h hh
                    have f2 := hX.fr h
                    have cc1 : wr.cell? ⟨b', 1, none⟩ = some (.slice (some ⟨go', 0, none⟩) (ed M v v).length (ed M v v).length) := hT.box.cell 1
                    have hpo := hpl.2.1
                    have e3 := hT.out.nat (N'.getD h 0) hpo
                    have f3 := hT.out.fr (N'.getD h 0)
                    have hT' := ((hT.blk (w' := wr.drew) rfl rfl rfl).setO (N'.getD h 0) k)
                    have hX' := (hX.drew.other go' (N'.getD h 0) (.int .i32 (k : Int)) hxo).setNat h (N'.getD h 0 + 1)
                    have hT'' : G ((wr.drew.setCell ⟨go', N'.getD h 0, none⟩ (.int .i32 (k : Int))).setCell ⟨gx, h, none⟩ (.int .i32 ((N'.getD h 0 + 1 : Nat) : Int))) b' gs' go' v (ed M v v).length (ed M v v).length C2 (O'.set (N'.getD h 0) k) :=
                      hT'.blk (Below.heap_setCell _ _ _ _ (by exact fun e => hxb e.symm)) (Below.heap_setCell _ _ _ _ (by exact fun e => hxs e.symm)) (Below.heap_setCell _ _ _ _ (by exact fun e => hxo e.symm))
                    have hbel' : Below w.heap.size w ((wr.drew.setCell ⟨go', N'.getD h 0, none⟩ (.int .i32 (k : Int))).setCell ⟨gx, h, none⟩ (.int .i32 ((N'.getD h 0 + 1 : Nat) : Int))) :=
                      (hbel.drew.setCell (p := ⟨go', N'.getD h 0, none⟩) hgo' _).setCell (p := ⟨gx, h, none⟩) hgx' _
                    generalize N'.getD h 0 = y at *
                    have hpo' : (y : Int) < (((ed M v v).length : Nat) : Int) := by omega
                    have hwk : IntKind.i32.wrap (k : Int) = (k : Int) := IntWalk.i32_in _ (by omega)
                    clear hE1 hE2 hE3 hL hT hX hbel hpl hT'
                    go_upto_region 19 with (fail)
                    refine wp_region_still_tail 11 mixed (by kernel_rfl) ?_
                    simp only [List.take_succ_cons, List.take_zero, List.drop_succ_cons, List.drop_zero]
                    repeat still_step
                    refine wpStill_nil ?_
                    have e4 : ((wr.drew.setCell ⟨go', y, none⟩ (.int .i32 (k : Int)))).cell? ⟨gx, h, none⟩ = some (.int .i32 (y : Int)) := by
                      rw [World.cell?_setCell_other _ _ _ _ (by intro e; simp only [Addr.mk.injEq, and_true] at e; exact hxo e.1.symm)]
                      exact e2
                    go_wp2
                    go_roundw
                    case rel => exact ⟨i' + 1, _, _, by omega, by go_num, hL', hT'', hX', hbel'⟩
                    case measure => simp [intOf]; omega
                  · have hil : (rowTo M k v).take i' = rowTo M k v := List.take_of_length_le (by omega)
                    rw [hil, ← ed_succ] at hL
                    go_wp2
                    go_roundw
                    case rel => exact ⟨k + 1, _, _, by omega, by go_num, hL, hT, hX, hbel⟩
                    case measure => simp [intOf]; omega
              · obtain rfl : k = v := by omega
                have hO := hL.done hElt
                subst hO
                go_wp2
                go_ret
                exact ⟨b', gs', go', C2, rfl, hT, fun x hx => hlow x hx hx, hb', hgs', hgo', hbel⟩
end Go.Proofs.Ybulkekys.J
