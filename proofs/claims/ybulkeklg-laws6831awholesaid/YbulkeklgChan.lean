import Derived.Test.YbulkeklgBuild
import Derived.Test.YbulkeklgOwn
namespace Go.Proofs.Ybulkeklg
open Go.RowKit

theorem Yba.info30 : (Yba.prog.info? 30).map (fun i => (i.zero, i.size, i.bytes)) = some (some (.agg #[.string ByteArray.empty, .int .i64 0]), 2, 24) := by kernel_rfl

theorem two_one (s : ByteArray) (x : Int) : ∀ u ∈ (#[.string s, .int .i64 x] : Array Value).toList, u.oneCell' = true := by
  intro u hu
  simp only [List.mem_cons, List.not_mem_nil, or_false] at hu
  rcases hu with rfl | rfl <;> rfl

/-- The cells of the first k channel messages. -/
def outs (ss : List ByteArray) (z1 : List Int) (l1 : Nat) : Nat → List Value
  | 0 => []
  | k + 1 => outs ss z1 l1 k ++ [.string (ss.getD k ByteArray.empty), .int .i64 (rnd z1 l1 k)]

theorem rec_cells {w : World} {g o : Nat} {s : ByteArray} {am fl : Int} {k : Nat} {p : Option Nat} (h : w.rangeAt g o (recL s am fl k p)) :
    w.cell? ⟨g, o, none⟩ = some (.string s) ∧ w.cell? ⟨g, o + 1, none⟩ = some (.bool (bits BinOp.and IntKind.u8 fl 1 != 0)) ∧ w.cell? ⟨g, o + 2, none⟩ = some (.bool (bits BinOp.and IntKind.u8 fl 2 != 0)) ∧
    w.cell? ⟨g, o + 3, none⟩ = some (.int .i64 am) ∧ w.cell? ⟨g, o + 4, none⟩ = some (.map p) ∧ w.cell? ⟨g, o + 5, none⟩ = some (.int .u64 (IntKind.u64.wrap fl)) ∧
    w.cell? ⟨g, o + 6, none⟩ = some (.int .u64 (k : Int)) ∧ w.cell? ⟨g, o + 7, none⟩ = some (.int .u64 (IntKind.u64.wrap am)) :=
  ⟨h 0 _ rfl, h 1 _ rfl, h 2 _ rfl, h 3 _ rfl, h 4 _ rfl, h 5 _ rfl, h 6 _ rfl, h 7 _ rfl⟩

set_option maxHeartbeats 1000000 in
set_option maxRecDepth 100000 in
theorem chan_any (g n : Nat) (ss : List ByteArray) (z1 : List Int) (l1 : Nat) (z2 : List Int) (l2 : Nat) (w : World)
    (hn : n ≤ 1048576) (hg : g < w.heap.size) (hb : Built w g n n ss z1 l1 z2 l2) :
    Calls Yba.prog 6 #[.slice (some ⟨g, 0, none⟩) n n] w fun e w' =>
      ∃ v, e = .returned v ∧ v ≠ .slice none 0 0 ∧ w'.ownsRow w.heap.size 30 2 v n (outs ss z1 l1 n) ∧ Below w.heap.size w w' := by
  obtain ⟨i0, hi, hz0, hz1, hz2⟩ := info_parts Yba.info30
  go_enter Yba.func6, Yba.ntmps6
  go_wp2_with (at_make; refine wpList_make_own _ rfl _ _ 27 rfl w.heap.size 30 i0 _ 2 Yba.underlying27 hi hz0 hz1 _ _ _ n rfl rfl ?m1 ?m2 ?m3 ?m4 ?_)
  case m1 => rfl
  case m2 => rw [hz2]; omega
  case m3 => unfold maxLen; omega
  case m4 => exact Nat.le_refl _
  intro w1 hown1 hgr1
  have hb1 : Below w.heap.size w w1 := (Below.refl _ _).grown hgr1 (Nat.le_refl _) (fun k hk => by cases hk)
  clear hgr1
  go_wp2_with fail
  go_loopw [3, 11] (fun v j wr => ∃ k : Nat, k ≤ n ∧ j = .int .i64 k ∧ v ≠ .slice none 0 0 ∧ wr.ownsRow w.heap.size 30 2 v k (outs ss z1 l1 k) ∧ Below w.heap.size w wr) (fun _ j _ => n - (intOf j).toNat)
  case atStart => exact ⟨0, Nat.zero_le _, rfl, by simp, hown1, hb1⟩
  case round =>
    clear hown1 hb1
    obtain ⟨k, hk, rfl, hnn, hown, hbel⟩ := hrel
    have hbs := hbel.size
    by_cases hlt : k < n
    · obtain ⟨p, hr, _⟩ := hb.good k hlt
      have hrr : wr.rangeAt g (k * 8) (recL (ss.getD k ByteArray.empty) (rnd z1 l1 k) (rnd z2 l2 k) k p) := fun j v hv => (hbel.cell (p := ⟨g, k * 8 + j, none⟩) hg).trans (hr j v hv)
      obtain ⟨e0, e1, e2, e3, e4, e5, e6, e7⟩ := rec_cells hrr
      clear hrr hr
      generalize hs : ss.getD k ByteArray.empty = s at *
      have hs0 : Hid (ss.getD k ByteArray.empty = s) := hs
      clear hs
      have hou : Hid (outs ss z1 l1 (k + 1) = outs ss z1 l1 k ++ [.string s, .int .i64 (rnd z1 l1 k)]) := by rw [← hs0.out]; rfl
      clear hs0
      go_wp2_with (at_builtin; refine wpList_append_el rfl (.tmp 15) (.tmp 21) 27 rfl w.heap.size 30 i0 _ 2 24 Yba.underlying27 hi hz0 hz1 hz2 rfl (by decide) _ _ _ rfl (hown.alloc _) (wr.heap.size + 1) rfl ?c0 rfl (two_one _ _) ?c3 ?c4 ?c5 ?_)
      case c0 => simp
      case c3 => unfold maxLen; omega
      case c4 => omega
      case c5 => simp; omega
      intro v' w' hown' hg' hnn'
      have hbel' := (hbel.alloc hbs _).grown hg' (by simp; omega) (fun k hk => (hown.lt k hk).1)
      have hown2 : w'.ownsRow w.heap.size 30 2 v' (k + 1) (outs ss z1 l1 (k + 1)) := by rw [hou.out]; exact hown'
      clear hown' hown hg'
      go_wp2
      go_roundw
      case rel => exact ⟨k + 1, by omega, by go_num, hnn', hown2, hbel'⟩
      case measure => simp [intOf]; omega
    · have hkn : k = n := by omega
      subst hkn
      go_wp2
      go_ret
      exact ⟨_, rfl, hnn, hown, hbel⟩
end Go.Proofs.Ybulkeklg
