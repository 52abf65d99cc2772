import Derived.Test.YbulkeklgSame
import Derived.Deep.QuietTactic
import Derived.BigQuiet
import Derived.Lib.SliceRun
namespace Go.Proofs.Ybulkeklg
open Go.RowKit

theorem Built.below {w w' : World} {g n k : Nat} {ss : List ByteArray} {z1 : List Int} {l1 : Nat} {z2 : List Int} {l2 : Nat} (h : Built w g n k ss z1 l1 z2 l2) (hg : g < w.heap.size) (hb : Below w.heap.size w w') : Built w' g n k ss z1 l1 z2 l2 :=
  ⟨fun j hj => by
    have h1 := hb.cell (p := ⟨g, j, none⟩) hg
    have h2 := hb.frozen (p := ⟨g, j, none⟩) hg
    rw [h1, h2]; exact h.there j hj,
   fun i hi => (h.good i hi).keep (fun j _ => hb.cell (p := ⟨g, i * 8 + j, none⟩) hg) (fun m _ hm => hb.block m hm)⟩

theorem below_drewN {B : Nat} {w w' : World} (h : Below B w w') (n : Nat) : Below B w (w'.drewN n) := ⟨h.os, h.tape, h.output, h.size, h.block⟩

theorem outs_length (ss : List ByteArray) (z1 : List Int) (l1 : Nat) : ∀ k, (outs ss z1 l1 k).length = k * 2
  | 0 => rfl
  | k + 1 => by simp only [outs, List.length_append, outs_length ss z1 l1 k, List.length_cons, List.length_nil]; omega
theorem outs_at (ss : List ByteArray) (z1 : List Int) (l1 : Nat) : ∀ n k, k < n → (outs ss z1 l1 n)[k * 2]? = some (.string (ss.getD k ByteArray.empty)) ∧ (outs ss z1 l1 n)[k * 2 + 1]? = some (.int .i64 (rnd z1 l1 k))
  | 0, k, h => absurd h (by omega)
  | n + 1, k, h => by
    have hl := outs_length ss z1 l1 n
    by_cases hk : k = n
    · subst hk
      simp only [outs]
      rw [List.getElem?_append_right (by omega), List.getElem?_append_right (by omega), hl]
      simp
    · have ih := outs_at ss z1 l1 n k (by omega)
      simp only [outs]
      rw [List.getElem?_append_left (by omega), List.getElem?_append_left (by omega)]
      exact ih

set_option maxHeartbeats 2000000 in
set_option maxRecDepth 100000 in
theorem law_small (a0 : Option Addr) (n c0 : Nat) (ss : List ByteArray) (a1 : Option Addr) (l1 c1 : Nat) (z1 : List Int) (a2 : Option Addr) (l2 c2 : Nat) (z2 : List Int) (w : World)
    (hn : n ≤ 1048576) (hl1 : l1 ≤ maxLen) (hl2 : l2 ≤ maxLen) (hS : StrsAt w.heap.size w a0 n ss) (hA : IntsAt .i64 w.heap.size w a1 l1 z1) (hF : IntsAt .u8 w.heap.size w a2 l2 z2) :
    Calls Yba.prog 3 #[.slice a0 n c0, .slice a1 l1 c1, .slice a2 l2 c2] w fun e w' => e = .returned (.bool true) ∧ Below w.heap.size w w' := by
  have hnb : decide ((1048576 : Int) < (n : Int)) = false := by simp; omega
  have hen := fun (w : World) (a : Option Addr) (n c n' c' : Nat) => Lib.run_eql_slice_nil (P := Yba.prog) w 27 30 a n c n' c' Yba.underlying27
  have hne : ((n : Int) != (n : Int)) = false := by simp
  go_enter Yba.func3, Yba.ntmps3
  go_wp2_with fail
  refine (build_any a0 n c0 ss a1 l1 c1 z1 a2 l2 c2 z2 w.heap.size w hn hl1 hl2 (Nat.le_refl _) hS hA hF).mono ?_
  rintro e w1 ⟨rfl, hbt1, hg1, hbel1⟩
  have hs1 := hbel1.size
  go_wp2_with fail
  refine (build_any a0 n c0 ss a1 l1 c1 z1 a2 l2 c2 z2 w.heap.size w1 hn hl1 hl2 hs1 (hS.below hbel1) (hA.below hbel1) (hF.below hbel1)).mono ?_
  rintro e w2 ⟨rfl, hbt2, hg2, hbel2⟩
  have hbt1' := hbt1.below hg1 hbel2
  have hb02 : Below w.heap.size w w2 := hbel1.trans (hbel2.mono hs1)
  clear hbt1 hbel1 hbel2
  go_wp2_with fail
  refine (chan_any w.heap.size n ss z1 l1 z2 l2 w2 hn (by omega) hbt1').mono ?_
  rintro e w3 ⟨v, rfl, hv, hown, hbel3⟩
  have hb03 : Below w.heap.size w w3 := hb02.trans (hbel3.mono hb02.size)
  have hbt1'' := hbt1'.below (by omega) hbel3
  have hbt2'' := hbt2.below hg2 hbel3
  have hs3 := hbel3.size
  have hl3 := hown.lt
  clear hbt1' hbt2 hbel3 hb02
  obtain ⟨g3, cap3, hv3⟩ : ∃ g3 cap3, v = .slice (some ⟨g3, 0, none⟩) n cap3 := by
    rcases hown.2 with ⟨h, _⟩ | ⟨g, cap, cur, h, _⟩
    · exact absurd h hv
    · exact ⟨g, cap, h⟩
  subst hv3
  have hg3 := (hl3 g3 rfl).2
  have hcells := fun j hj => hown.cellAt j hj
  clear hv hown hl3
  go_wp2_with fail
  go_loopw [10] (fun j wr => ∃ k : Nat, k ≤ n ∧ j = .int .i64 k ∧ ∃ nq, wr = w3.drewN nq) (fun j _ => n - (intOf j).toNat)
  case atStart => exact ⟨0, Nat.zero_le _, rfl, 0, rfl⟩
  case round =>
    obtain ⟨k, hk, rfl, nq, rfl⟩ := hrel
    by_cases hlt : k < n
    · obtain ⟨b, off, rfl, hb, hcell⟩ := hS.below hb03 k hlt
      have ho := outs_at ss z1 l1 n k hlt
      have e0 := (hcells (k * 2) (by omega)).trans ho.1
      have e1 := (hcells (k * 2 + 1) (by omega)).trans ho.2
      have HA := fun wq (hq : Below w.heap.size w wq) => amount_any a1 l1 c1 z1 w.heap.size k wq hl1 (by omega) (hA.below hq)
      generalize ss.getD k ByteArray.empty = s at *
      generalize rnd z1 l1 k = am at *
      clear ho hcells hen
      have hss : (s.toList != s.toList) = false := by simp
      have haa : (am != am) = false := by simp
      go_upto_region 11 with (fail)
      go_quiet ((go_at_call 7; exact (HA _ (below_drewN hb03 _)).mono (fun e w' h => ⟨h.1, _, h.2⟩)))
      go_wp2
      go_roundw
      case rel => exact ⟨k + 1, by omega, by go_num, _, rfl⟩
      case measure => simp [intOf]; omega
    · clear hcells hen
      have hb03' := below_drewN hb03 nq
      have h33 : Below w3.heap.size w3 (w3.drewN nq) := below_drewN (Below.refl _ _) nq
      go_wp2_with fail
      generalize w3.drewN nq = w4 at *
      go_loopw [11] (fun j wr => ∃ k : Nat, k ≤ n ∧ j = .int .i64 k ∧ Below w3.heap.size w3 wr) (fun j _ => n - (intOf j).toNat)
      case atStart => exact ⟨0, Nat.zero_le _, rfl, h33⟩
      case round =>
        obtain ⟨k', hk', rfl, hbr⟩ := hrel
        by_cases hlt : k' < n
        · obtain ⟨p1, r1, q1⟩ := (hbt1''.below (by omega) hbr).good k' hlt
          obtain ⟨p2, r2, q2⟩ := (hbt2''.below (by omega) hbr).good k' hlt
          have hsame := same_any _ (rnd z1 l1 k') _ k' p1 p2 _ _ wr.drew q1 q2
          obtain ⟨e0, e1, e2, e3, e4, e5, e6, e7⟩ := rec_cells r1
          obtain ⟨d0, d1, d2, d3, d4, d5, d6, d7⟩ := rec_cells r2
          clear r1 r2 q1 q2
          have hbs := hbr.size
          generalize ss.getD k' ByteArray.empty = s at *
          generalize rnd z1 l1 k' = am at *
          generalize rnd z2 l2 k' = fl at *
          unfold recL at hsame
          have HSM : Hid _ := hsame
          clear hsame
          go_upto_region 18 with (fail)
          refine wp_region_still_tail 8 mixed (by kernel_rfl) ?_
          simp only [List.take_succ_cons, List.take_zero, List.drop_succ_cons, List.drop_zero]
          repeat still_step
          refine wpStill_nil ?_
          go_wp2_with fail
          refine Calls.mono HSM.out ?_
          rintro e w5 ⟨rfl, hb5⟩
          go_wp2
          go_roundw
          case rel => exact ⟨k' + 1, by omega, by go_num, hbr.drew.trans (hb5.mono (by simpa using hbs))⟩
          case measure => simp [intOf]; omega
        · go_wp2
          go_ret
          exact ⟨rfl, hb03.trans (hbr.mono hb03.size)⟩

set_option maxHeartbeats 400000 in
theorem law_big (a0 : Option Addr) (n c0 : Nat) (a1 : Option Addr) (l1 c1 : Nat) (a2 : Option Addr) (l2 c2 : Nat) (w : World) (hn : 1048576 < n) (_hm : n ≤ maxLen) :
    Calls Yba.prog 3 #[.slice a0 n c0, .slice a1 l1 c1, .slice a2 l2 c2] w fun e w' => e = .returned (.bool true) ∧ Below w.heap.size w w' := by
  go_enter Yba.func3, Yba.ntmps3
  go_wp2
  go_ret
  exact ⟨rfl, Below.refl _ _⟩
end Go.Proofs.Ybulkeklg
