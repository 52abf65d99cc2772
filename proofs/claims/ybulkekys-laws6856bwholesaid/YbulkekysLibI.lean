import Derived.Test.YbulkekysChecked
import Derived.Test.YbulkekysArr
import Derived.Lib.SliceRun
import Derived.Deep.QuietTactic
import Derived.BigQuiet
namespace Go.Proofs.Ybulkekys.I
open Go.RowKit

theorem infoE : (Yba.prog.info? 3).map (fun i => (i.zero, i.size, i.bytes)) = some (some (.int .i64 0), 1, 8) := by kernel_rfl

set_option maxHeartbeats 400000 in
theorem clone_any (g n cap : Nat) (xs : List Value) (w : World) (hA : Arr w g 3 n cap xs) (h1 : ∀ u ∈ xs, u.oneCell' = true) (hn : n ≤ 100000) :
    Calls Yba.prog 7 #[.slice (some ⟨g, 0, none⟩) n cap] w fun e w' =>
      ∃ g' cap', e = .returned (.slice (some ⟨g', 0, none⟩) n cap') ∧ Arr w' g' 3 n cap' xs ∧ w.heap.size ≤ g' ∧ Below w.heap.size w w' := by
  obtain ⟨i0, hi, hz0, hz1, hz2⟩ := info_parts infoE
  have hen := fun (w : World) (a : Option Addr) (n c n' c' : Nat) => Lib.run_eql_slice_nil (P := Yba.prog) w 33 3 a n c n' c' Yba.underlying33
  go_enter Yba.func7, Yba.ntmps7
  have hE := Arr.empty w 3
  have hA2 := hA.alloc (.cells #[] 3)
  go_wp2_with (at_builtin; refine wpList_append_row rfl (.tmp 5) (.tmp 6) 33 rfl 3 i0 (.int .i64 0) 8 Yba.underlying33 hi hz0 hz1 hz2 rfl w.heap.size 0 0 [] rfl hE g n cap xs rfl hA2 h1 ?c1 ?c2 ?_)
  case c1 => unfold maxLen; omega
  case c2 => omega
  intro g' cap' w' hA' hg' hgg
  have hA2' : Arr w' g' 3 n cap' xs := by simpa using hA'
  have hb : Below w.heap.size w w' := ((Below.refl _ _).alloc (Nat.le_refl _) _).grown hg' (by simp) (fun k hk => by cases hk; exact Nat.le_refl _)
  have hge : w.heap.size ≤ g' := by
    rcases hgg with h | h
    · omega
    · have := h.1; first | omega | (simp at this; omega)
  go_wp2
  go_ret
  exact ⟨g', cap', rfl, hA2', hge, hb⟩

set_option maxHeartbeats 400000 in
theorem equal_any (g1 g2 n c1 c2 : Nat) (l : List Nat) (w : World) (hn : n ≤ 100000) (h1 : Arr w g1 3 n c1 (nv .i64 l)) (h2 : Arr w g2 3 n c2 (nv .i64 l)) :
    Calls Yba.prog 10 #[.slice (some ⟨g1, 0, none⟩) n c1, .slice (some ⟨g2, 0, none⟩) n c2] w fun e w' => e = .returned (.bool true) ∧ ∃ q, w' = w.drewN q := by
  have hnn : ((n : Int) != (n : Int)) = false := by simp
  go_enter Yba.func10, Yba.ntmps10
  go_wp2
  go_loopw [13] (fun j wr => ∃ k : Nat, k ≤ n ∧ j = .int .i64 k ∧ ∃ q, wr = w.drewN q) (fun j _ => n - (intOf j).toNat)
  case atStart => exact ⟨0, Nat.zero_le _, rfl, 0, rfl⟩
  case round =>
    obtain ⟨k, hk, rfl, q, rfl⟩ := hrel
    by_cases hlt : k < n
    · have e1 := h1.nat k hlt
      have e2 := h2.nat k hlt
      generalize ((l.getD k 0 : Nat) : Int) = x at *
      have hxx : (x != x) = false := by simp
      go_wp2
      go_quiet (fail)
      go_wp2
      go_roundw
      case rel => exact ⟨k + 1, by omega, by go_num, _, rfl⟩
      case measure => simp [intOf]; omega
    · go_wp2
      go_ret
      exact ⟨rfl, _, rfl⟩

/-- What 'holders' answers: a part of the row 'go'. -/
def part (go lo hi cap : Nat) : Value := .slice (if cap = lo then some ⟨go, 0, none⟩ else some ⟨go, lo, none⟩) (hi - lo) (cap - lo)

set_option maxHeartbeats 400000 in
theorem holders_any (b gs go n m c : Nat) (S O : List Nat) (v : Nat) (w : World) (hn : n ≤ 300) (hv : v < n)
    (hB : Box w b 69 #[.slice (some ⟨gs, 0, none⟩) (n + 1) (n + 1), .slice (some ⟨go, 0, none⟩) m c]) (hS : Arr w gs 3 (n + 1) (n + 1) (nv .i64 S)) (hO : Arr w go 3 m c (nv .i64 O))
    (h1 : S.getD v 0 ≤ S.getD (v + 1) 0) (h2 : S.getD (v + 1) 0 ≤ m) :
    Calls Yba.prog 21 #[.pointer (some ⟨b, 0, none⟩), .int .i64 (v : Int)] w fun e w' => e = .returned (part go (S.getD v 0) (S.getD (v + 1) 0) c) ∧ ∃ q, w' = w.drewN q := by
  have e0 : w.cell? ⟨b, 0, none⟩ = some (.slice (some ⟨gs, 0, none⟩) (n + 1) (n + 1)) := hB.cell 0
  have e1 : w.cell? ⟨b, 1, none⟩ = some (.slice (some ⟨go, 0, none⟩) m c) := hB.cell 1
  have e2 := hS.nat v (by omega)
  have e3 := hS.nat (v + 1) (by omega)
  have hc := hO.cut
  have hmc := hc.1
  have hcm : c ≤ 9223372036854775807 := by have := hc.2; unfold maxLen at this; omega
  unfold part
  generalize S.getD v 0 = lo at *
  generalize S.getD (v + 1) 0 = hi at *
  clear hB hS hO hc
  have hv1 : (v : Int) + 1 < ((n + 1 : Nat) : Int) := by omega
  have hv0 : (0 : Int) ≤ (v : Int) + 1 := by omega
  have hv2 : v + 1 < n + 1 := by omega
  have hv3 : v < n + 1 := by omega
  go_enter Yba.func21, Yba.ntmps21
  go_wp2
  go_quiet (fail)
  go_wp2
  all_goals
    go_ret
    exact ⟨rfl, _, rfl⟩
end Go.Proofs.Ybulkekys.I
