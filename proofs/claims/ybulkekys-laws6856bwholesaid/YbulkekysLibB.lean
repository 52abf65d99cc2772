import Derived.Test.YbulkekysT7
namespace Go.Proofs.Ybulkekys
open Go.RowKit

set_option maxHeartbeats 400000 in
theorem cloneB_any (g n cap : Nat) (xs : List Value) (w : World) (hA : Arr w g 4 n cap xs) (h1 : ∀ u ∈ xs, u.oneCell' = true) (hn : n ≤ 100000) :
    Calls Yba.prog 8 #[.slice (some ⟨g, 0, none⟩) n cap] w fun e w' =>
      ∃ g' cap', e = .returned (.slice (some ⟨g', 0, none⟩) n cap') ∧ Arr w' g' 4 n cap' xs ∧ w.heap.size ≤ g' ∧ Below w.heap.size w w' := by
  obtain ⟨i0, hi, hz0, hz1, hz2⟩ := info_parts info4
  have hen := fun (w : World) (a : Option Addr) (n c n' c' : Nat) => Lib.run_eql_slice_nil (P := Yba.prog) w 24 4 a n c n' c' Yba.underlying24
  go_enter Yba.func8, Yba.ntmps8
  have hE := Arr.empty w 4
  have hA2 := hA.alloc (.cells #[] 4)
  go_wp2_with (at_builtin; refine wpList_append_row rfl (.tmp 5) (.tmp 6) 24 rfl 4 i0 (.bool false) 1 Yba.underlying24 hi hz0 hz1 hz2 rfl w.heap.size 0 0 [] rfl hE g n cap xs rfl hA2 h1 ?c1 ?c2 ?_)
  case c1 => unfold maxLen; omega
  case c2 => omega
  intro g' cap' w' hA' hg' hgg
  have hA2' : Arr w' g' 4 n cap' xs := by simpa using hA'
  have hb : Below w.heap.size w w' := ((Below.refl _ _).alloc (Nat.le_refl _) _).grown hg' (by simp) (fun k hk => by cases hk; exact Nat.le_refl _)
  have hge : w.heap.size ≤ g' := by
    rcases hgg with h | h
    · omega
    · have := h.1; first | omega | (simp at this; omega)
  go_wp2
  go_ret
  exact ⟨g', cap', rfl, hA2', hge, hb⟩

set_option maxHeartbeats 400000 in
theorem equalB_any (g1 g2 n c1 c2 : Nat) (f : Nat → Bool) (w : World) (hn : n ≤ 100000) (h1 : Arr w g1 4 n c1 (mr n fun i => .bool (f i))) (h2 : Arr w g2 4 n c2 (mr n fun i => .bool (f i))) :
    Calls Yba.prog 11 #[.slice (some ⟨g1, 0, none⟩) n c1, .slice (some ⟨g2, 0, none⟩) n c2] w fun e w' => e = .returned (.bool true) ∧ ∃ q, w' = w.drewN q := by
  have hnn : ((n : Int) != (n : Int)) = false := by simp
  go_enter Yba.func11, Yba.ntmps11
  go_wp2
  go_loopw [13] (fun j wr => ∃ k : Nat, k ≤ n ∧ j = .int .i64 k ∧ ∃ q, wr = w.drewN q) (fun j _ => n - (intOf j).toNat)
  case atStart => exact ⟨0, Nat.zero_le _, rfl, 0, rfl⟩
  case round =>
    obtain ⟨k, hk, rfl, q, rfl⟩ := hrel
    by_cases hlt : k < n
    · have e1 := h1.mr k hlt
      have e2 := h2.mr k hlt
      generalize f k = x at *
      have hxx : (x != x) = false := by simp
      go_wp2
      go_quiet (fail)
      go_wp2
      go_roundw
      case rel => exact ⟨k + 1, by omega, by go_num, _, rfl⟩
      case measure => simp [intOf]; omega
    · go_wp2
      go_ret
      exact ⟨rfl, _, rfl⟩

set_option maxHeartbeats 400000 in
theorem equal_row (v1 v2 : Value) (l : List Nat) (w : World) (hn : l.length ≤ 100000) (h1 : w.ownsRow 0 3 1 v1 l.length (nv .i64 l)) (h2 : w.ownsRow 0 3 1 v2 l.length (nv .i64 l)) :
    Calls Yba.prog 10 #[v1, v2] w fun e w' => e = .returned (.bool true) ∧ ∃ q, w' = w.drewN q := by
  by_cases h0 : 0 < l.length
  · obtain ⟨g1, c1, rfl, _, _⟩ := World.ownsRow.form h1 h0
    obtain ⟨g2, c2, rfl, _, _⟩ := World.ownsRow.form h2 h0
    exact I.equal_any g1 g2 l.length c1 c2 l w hn h1 h2
  · have e : l.length = 0 := by omega
    obtain ⟨a1, c1, rfl⟩ := row_form h1
    obtain ⟨a2, c2, rfl⟩ := row_form h2
    rw [e]
    go_enter Yba.func10, Yba.ntmps10
    go_wp2
    go_loopw [13] (fun j wr => j = .int .i64 0 ∧ wr = w) (fun _ _ => 0)
    case atStart => exact ⟨rfl, rfl⟩
    case round =>
      obtain ⟨rfl, rfl⟩ := hrel
      go_wp2
      go_ret
      exact ⟨rfl, 0, rfl⟩
end Go.Proofs.Ybulkekys
