import Derived.Test.YbulkeklgRec
import Derived.Deep.Cut
import Derived.Deep.DeepCutAuto
import Derived.StillTailTactics
namespace Go.Proofs.Ybulkeklg
open Go.RowKit

theorem mixed : Yba.prog.follows .mixedOrders = true := by kernel_rfl
theorem Yba.info36 : (Yba.prog.info? 36).map (fun i => (i.zero, i.size, i.bytes)) = some (some (.agg #[.string ByteArray.empty, .bool false, .bool false, .int .i64 0, .map none, .int .u64 0, .int .u64 0, .int .u64 0]), 8, 64) := by kernel_rfl
theorem size36 : (Yba.prog.info? 36).map (·.size) = some 8 := by kernel_rfl

theorem recL_one (s : ByteArray) (am fl : Int) (k : Nat) (p : Option Nat) : (recL s am fl k p).toArray.all (·.oneCell') = true := by
  refine all_oneCell_toArray (fun v hv => ?_)
  simp only [recL, List.mem_cons, List.not_mem_nil, or_false] at hv
  rcases hv with rfl | rfl | rfl | rfl | rfl | rfl | rfl | rfl <;> rfl

theorem built_zero {w : World} {base n : Nat} {xs : List Value} {ss : List ByteArray} {z1 : List Int} {l1 : Nat} {z2 : List Int} {l2 : Nat}
    (h : w.ownsRow base 36 8 (.slice (some ⟨base, 0, none⟩) n n) n xs) : Built w base n 0 ss z1 l1 z2 l2 :=
  ⟨fun j hj => ⟨by rw [h.cellAt j hj, List.getElem?_eq_getElem (by rw [h.1]; exact hj)]; rfl, h.frozenAt j⟩, fun i hi => absurd hi (by omega)⟩

set_option maxHeartbeats 1000000 in
set_option maxRecDepth 100000 in
theorem build_any (a0 : Option Addr) (n c0 : Nat) (ss : List ByteArray) (a1 : Option Addr) (l1 c1 : Nat) (z1 : List Int) (a2 : Option Addr) (l2 c2 : Nat) (z2 : List Int) (B : Nat) (w : World)
    (hn : n ≤ 1048576) (hl1 : l1 ≤ maxLen) (hl2 : l2 ≤ maxLen) (hB : B ≤ w.heap.size) (hS : StrsAt B w a0 n ss) (hA : IntsAt .i64 B w a1 l1 z1) (hF : IntsAt .u8 B w a2 l2 z2) :
    Calls Yba.prog 5 #[.slice a0 n c0, .slice a1 l1 c1, .slice a2 l2 c2] w fun e w' =>
      e = .returned (.slice (some ⟨w.heap.size, 0, none⟩) n n) ∧ Built w' w.heap.size n n ss z1 l1 z2 l2 ∧ w.heap.size < w'.heap.size ∧ Below w.heap.size w w' := by
  obtain ⟨i0, hi, hz0, hz1, hz2⟩ := info_parts Yba.info36
  go_enter Yba.func5, Yba.ntmps5
  go_wp2_with (at_make; refine wpList_make_full _ rfl _ _ 25 rfl w.heap.size 36 i0 _ 8 Yba.underlying25 hi hz0 hz1 _ _ _ _ n rfl rfl ?m0 ?m1 ?m2 ?m3 ?m4 ?_)
  case m0 => rfl
  case m1 => rfl
  case m2 => rw [hz2]; omega
  case m3 => unfold maxLen; omega
  case m4 => exact Nat.le_refl _
  intro w1 hown1 hgr1
  have hb1 : Below w.heap.size w w1 := (Below.refl _ _).grown hgr1 (Nat.le_refl _) (fun k hk => by cases hk)
  have hsz1 : w.heap.size < w1.heap.size := (hown1.lt w.heap.size rfl).2
  have hbt1 : Built w1 w.heap.size n 0 ss z1 l1 z2 l2 := built_zero hown1
  clear hown1 hgr1
  go_wp2_with fail
  go_loopw [8] (fun j wr => ∃ k : Nat, k ≤ n ∧ j = .int .i64 k ∧ Built wr w.heap.size n k ss z1 l1 z2 l2 ∧ w.heap.size < wr.heap.size ∧ Below w.heap.size w wr) (fun j _ => n - (intOf j).toNat)
  case atStart => exact ⟨0, Nat.zero_le _, rfl, hbt1, hsz1, hb1⟩
  case round =>
    clear hbt1 hb1 hsz1
    obtain ⟨k, hk, rfl, hbt, hszr, hbel⟩ := hrel
    have hbB := hbel.mono hB
    by_cases hlt : k < n
    · obtain ⟨b, off, rfl, hb, hcell0⟩ := hS k hlt
      have HA := fun wq (hq : Below B w wq) => amount_any a1 l1 c1 z1 B k wq hl1 (by omega) (hA.below hq)
      have HF := fun wq (hq : Below B w wq) => flag_any a2 l2 c2 z2 B k wq hl2 (by omega) (hF.below hq)
      have HS := fun wq (hq : Below B w wq) => (hq.cell (p := ⟨b, off + k, none⟩) hb).trans hcell0
      have hcell := HS wr hbB
      clear hcell0
      have hwk : IntKind.u64.wrap (k : Int) = (k : Int) := IntWalk.u64_in _ (by omega)
      have hth : wr.drew.there w.heap.size (k * 8) 8 := fun j hj => hbt.there (k * 8 + j) (by omega)
      have HST := hbt.store hlt (recL (ss.getD k ByteArray.empty) (rnd z1 l1 k) (rnd z2 l2 k) k none) rfl
      have hsz2 : w.heap.size < (wr.drew.setCells w.heap.size (k * 8) (recL (ss.getD k ByteArray.empty) (rnd z1 l1 k) (rnd z2 l2 k) k none)).heap.size := by rw [size_setCells]; exact hszr
      have hbel2 := below_setCells hbel.drew w.heap.size (Nat.le_refl _) (recL (ss.getD k ByteArray.empty) (rnd z1 l1 k) (rnd z2 l2 k) k none) (k * 8)
      have HW : ∀ w2, Built w2 w.heap.size n k ss z1 l1 z2 l2 → w2.rangeAt w.heap.size (k * 8) (recL (ss.getD k ByteArray.empty) (rnd z1 l1 k) (rnd z2 l2 k) k none) → bit4 (rnd z2 l2 k) = true → Built ((w2.alloc (pastObj (ss.getD k ByteArray.empty) k)).setCell ⟨w.heap.size, k * 8 + 4, none⟩ (.map (some w2.heap.size))) w.heap.size n (k + 1) ss z1 l1 z2 l2 := fun w2 h1 h2 h3 => h1.step1 hlt h2 h3
      have HW0 : ∀ w2, Built w2 w.heap.size n k ss z1 l1 z2 l2 → w2.rangeAt w.heap.size (k * 8) (recL (ss.getD k ByteArray.empty) (rnd z1 l1 k) (rnd z2 l2 k) k none) → bit4 (rnd z2 l2 k) = false → Built w2 w.heap.size n (k + 1) ss z1 l1 z2 l2 := fun w2 h1 h2 h3 => h1.step0 h2 h3
      generalize ss.getD k ByteArray.empty = s at *
      generalize rnd z1 l1 k = am at *
      generalize rnd z2 l2 k = fl at *
      have HST' : Hid _ := HST
      have HW' : Hid _ := HW
      have HW0' : Hid _ := HW0
      clear HST HW HW0
      go_upto_region 5 with (fail)
      refine wp_region_still_tail 31 mixed (by kernel_rfl) ?_
      simp only [List.take_succ_cons, List.take_zero, List.drop_succ_cons, List.drop_zero]
      repeat (first | still_step | still_call (HA _ (hbB.drew)) | still_call (HF _ (hbB.drew)))
      refine wpStill_nil ?_
      refine wpList_store_mid (w := wr.drew) rfl 36 (.tmp 48) (.tmp 47) rfl w.heap.size (k * 8) (recL s am fl k none).toArray rfl rfl hth size36 (recL_one _ _ _ _ _) ?_
      obtain ⟨hbt2, hr2⟩ := HST'.out
      rw [List.toList_toArray]
      clear HST'
      generalize wr.drew.setCells w.heap.size (k * 8) (recL s am fl k none) = w2 at *
      have hbB2 := hbel2.mono hB
      have hcell2 := HS w2 hbB2
      have hbs2 := hbel2.size
      have hlt2 := hbt2.lt (by omega)
      have hc4 : w2.cell? ⟨w.heap.size, k * 8 + 4, none⟩ = some (.map none) := hr2 4 _ rfl
      have hbw : b < w2.heap.size := by omega
      have hf4 := (hbt2.there (k * 8 + 4) (by omega)).2
      clear hcell hth hbt hbel HA HS
      cases hb4 : bit4 fl
      · have hb4' : (bits BinOp.and IntKind.u8 fl 4 != 0) = false := hb4
        have hfin := HW0'.out w2 hbt2 hr2 hb4
        clear hb4
        go_wp2_with (go_at_call 11; refine (HF _ hbB2).mono ?_; rintro e w' ⟨rfl, rfl⟩)
        go_roundw
        case rel => exact ⟨k + 1, by omega, by go_num, hfin, hsz2, hbel2⟩
        case measure => simp [intOf]; omega
      · have hb4' : (bits BinOp.and IntKind.u8 fl 4 != 0) = true := hb4
        have hfin := HW'.out w2 hbt2 hr2 hb4
        have hbel3 : Below w.heap.size w ((w2.alloc (pastObj s k)).setCell ⟨w.heap.size, k * 8 + 4, none⟩ (.map (some w2.heap.size))) := (hbel2.alloc hbs2 _).setCell (p := ⟨w.heap.size, k * 8 + 4, none⟩) (Nat.le_refl _) _
        clear hb4
        have hmm := @run_makeMap Yba.prog
        have hfill := run_fill w2 s k
        go_wp2_with (go_at_call 11; refine (HF _ hbB2).mono ?_; rintro e w' ⟨rfl, rfl⟩)
        go_roundw
        case rel =>
          refine ⟨k + 1, by omega, by go_num, ?_, ?_, ?_⟩
          · rw [setCell_alloc_swap _ _ _ _ _ hlt2]; exact hfin
          · rw [setCell_alloc_swap _ _ _ _ _ hlt2]; simp; omega
          · rw [setCell_alloc_swap _ _ _ _ _ hlt2]; exact hbel3
        case measure => simp [intOf]; omega
    · have hkn : k = n := by omega
      go_wp2
      go_ret
      exact ⟨rfl, by rw [← hkn]; rw [hkn] at hbt ⊢; exact hbt, hszr, hbel⟩
end Go.Proofs.Ybulkeklg
