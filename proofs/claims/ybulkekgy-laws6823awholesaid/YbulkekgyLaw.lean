import Derived.Test.YbulkekgyNumber
import Derived.Test.YbulkekgyEnd
import Derived.Lib.AppendStr
import Derived.Test.YbulkekgyOwn
namespace Go.Proofs.Ybulkekgy
open Go.RowKit

theorem Yba.info5 : (Yba.prog.info? 5).map (fun i => (i.zero, i.size, i.bytes)) = some (some (.int .u8 0), 1, 1) := by kernel_rfl

/-- A slice of bytes that came in, as far as the law reads it. -/
def Codes (w : World) (a : Option Addr) (len : Nat) (zs : List Int) : Prop :=
  ∀ k, k < len → ∃ b off, a = some ⟨b, off, none⟩ ∧ b < w.heap.size ∧ w.cell? ⟨b, off + k, none⟩ = some (.int .u8 (zs.getD k 0)) ∧ 0 ≤ zs.getD k 0 ∧ zs.getD k 0 ≤ 255

/-- What the call owns, read as a string. -/
theorem run_convert_owned {w : World} {base n : Nat} {v : Value} {xs : List Int} (h : w.ownsRow base 5 1 v n (xs.map (Value.int .u8))) :
    (convert 22 9 v).run Yba.prog w = .ok (.string (strOfNums xs)) w := by
  have hl : xs.length = n := by simpa using h.1
  rcases h.2 with ⟨rfl, rfl⟩ | ⟨g, cap, cur, rfl, hb, hh, rest⟩
  · have : xs = [] := List.eq_nil_of_length_eq_zero hl
    subst this
    exact run_convert_bytes_nil (P := Yba.prog) w 22 5 Yba.underlying22 Yba.underlying5 0 0 9 Yba.underlying9
  · refine run_convert_bytes_arg (P := Yba.prog) w 22 5 Yba.underlying22 Yba.underlying5 g 0 n cap xs hl ?_ 9 Yba.underlying9
    intro i hi
    have hc := h.cells (g := g) rfl i (.int .u8 (xs.getD i 0)) (by simp [List.getElem?_eq_getElem (show i < xs.length by omega), List.getD])
    rw [Addr.add_lit] at hc
    exact hc

set_option maxHeartbeats 1000000 in
set_option maxRecDepth 100000 in
theorem law_big (a0 : ByteArray) (a1 : Option Addr) (len1 cap1 : Nat) (a2 : Int) (a3 : Int) (a4 : Bool) (a5 : Int) (w : World) 
    (h : 1048576 < a0.size + len1) (hsum : a0.size + len1 ≤ maxLen) :
    Calls Yba.prog 3 #[.string a0, .slice a1 len1 cap1, .int .u64 a2, .int .i64 a3, .bool a4, .int .u8 a5] w fun e w' => e = .returned (.bool true) ∧ Below w.heap.size w w' := by
  unfold maxLen at hsum
  go_enter Yba.func3, Yba.ntmps3
  go_wp2
  go_ret
  exact ⟨rfl, Below.refl _ _⟩

set_option maxHeartbeats 1000000 in
set_option maxRecDepth 100000 in
theorem law_small (a0 : ByteArray) (a1 : Option Addr) (len1 cap1 : Nat) (z1 : List Int) (a2 : Int) (a3 : Int) (a4 : Bool) (a5 : Int) (w : World) 
    (h : a0.size + len1 ≤ 1048576) (hc : Codes w a1 len1 z1) (h20 : 0 ≤ a2) (h21 : a2 ≤ 18446744073709551615) :
    Calls Yba.prog 3 #[.string a0, .slice a1 len1 cap1, .int .u64 a2, .int .i64 a3, .bool a4, .int .u8 a5] w fun e w' => e = .returned (.bool true) ∧ Below w.heap.size w w' := by
  obtain ⟨i0, hi, hz0, hz1, hz2⟩ := info_parts Yba.info5
  have hnb : decide ((1048576 : Int) < (a0.size : Int) + (len1 : Int)) = false := by simp; omega
  go_enter Yba.func3, Yba.ntmps3
  go_wp2_with (at_make; refine wpList_make_own _ rfl _ _ 22 rfl w.heap.size 5 i0 (.int .u8 0) 1 Yba.underlying22 hi hz0 hz1 _ _ _ (a0.size + len1) rfl rfl ?m1 ?m2 ?m3 ?m4 ?_)
  case m1 => omega
  case m2 => rw [hz2]; omega
  case m3 => unfold maxLen; omega
  case m4 => exact Nat.le_refl _
  intro w1 hown1 hgr1
  have hb1 : Below w.heap.size w w1 := (Below.refl _ _).grown hgr1 (Nat.le_refl _) (fun k hk => by cases hk)
  have hsz1 := hgr1.size
  go_wp2_with (at_builtin; refine Lib.wpList_append_own_string _ rfl _ _ 22 9 rfl w.heap.size 5 i0 Yba.underlying22 Yba.underlying9 hi hz0 hz1 hz2 _ _ _ rfl hown1 a0 rfl ?s1 ?s2 ?s3 ?_)
  case s1 => unfold maxLen; omega
  case s2 => omega
  case s3 => exact hsz1
  intro v2 w2 hown2 hgr2 _
  have hb2 : Below w.heap.size w w2 := hb1.grown hgr2 hsz1 (fun k hk => (hown1.lt k hk).1)
  clear hown1 hgr1 hgr2 hb1 hsz1
  go_wp2_with fail
  go_loopw [13, 38] (fun v i wr => ∃ k : Nat, k ≤ len1 ∧ i = .int .i64 k ∧ (∃ ns : List Int, wr.ownsRow w.heap.size 5 1 v (a0.size + k) (ns.map (Value.int .u8))) ∧ Below w.heap.size w wr)
    (fun _ i _ => len1 - (intOf i).toNat)
  case atStart => exact ⟨0, Nat.zero_le _, rfl, ⟨a0.data.toList.map (fun b => (b.toNat : Int)), by simpa [Lib.strCells, Function.comp_def] using hown2⟩, hb2⟩
  case round =>
    clear hown2 hb2
    obtain ⟨k, hk, rfl, ⟨ns, hown⟩, hbel⟩ := hrel
    have hbs := hbel.size
    by_cases hlt : k < len1
    · obtain ⟨b, off, rfl, hbw, hcell, hc0, hc1⟩ := hc k hlt
      have hcx : wr.cell? ⟨b, off + k, none⟩ = some (.int .u8 (z1.getD k 0)) := (hbel.cell (p := ⟨b, off + k, none⟩) hbw).trans hcell
      generalize z1.getD k 0 = c at *
      go_wp2_with (at_builtin; refine wpList_append_one rfl (.tmp 42) (.tmp 47) 22 rfl w.heap.size 5 i0 (.int .u8 0) 1 Yba.underlying22 hi hz0 hz1 hz2 rfl _ _ _ rfl hown rfl rfl ?c3 ?c4 ?c5 ?_)
      case c3 => unfold maxLen; omega
      case c4 => omega
      case c5 => omega
      intro v' w' hown' hbel'
      obtain ⟨ns', hns'⟩ : ∃ ns' : List Int, w'.ownsRow w.heap.size 5 1 v' (a0.size + k + 1) (ns'.map (Value.int .u8)) := ⟨ns ++ [_], by simpa using hown'⟩
      clear hown' hown hcx hcell
      go_wp2
      go_roundw
      case rel => exact ⟨k + 1, by omega, by go_num, ⟨ns', hns'⟩, hbel.trans hbel'⟩
      case measure => simp [intOf]; omega
    · have hconv := run_convert_owned hown
      have hlen : (strOfNums ns).size = a0.size + k := by rw [strOfNums_size]; simpa using hown.1
      clear hown
      generalize strOfNums ns = s at *
      have hsz : s.size ≤ 1048576 := by omega
      have hnn : (0 : Int) < (s.size : Int) + 1 := by omega
      clear hlen
      obtain ⟨i, hii, hpos⟩ : ∃ i : Nat, i ≤ s.size ∧ wrap64 (a2 % ((s.size : Int) + 1)) = (i : Int) := by
        have h1 := Int.emod_nonneg a2 (show ((s.size : Int) + 1) ≠ 0 by omega)
        have h2 := Int.emod_lt_of_pos a2 hnn
        refine ⟨(a2 % ((s.size : Int) + 1)).toNat, by omega, ?_⟩
        generalize a2 % ((s.size : Int) + 1) = r at *
        unfold wrap64
        omega
      have HP : Hid (wrap64 (a2 % ((s.size : Int) + 1)) = (i : Int)) := hpos
      clear hpos
      go_wp2_with fail
      rw [HP.out]
      clear HP hconv hc
      have hL : Lex wr.heap.size s i a3 a4 a5 (wr.alloc (.cells #[.string s, .int .i64 (i : Int), .int .i64 a3, .bool a4, .int .u8 a5] 27)) := heap_alloc_new wr _
      refine (number_any wr.heap.size s i a3 a4 a5 _ hsz hii hL).mono ?_
      rintro e w3 ⟨rfl, hL3, hO3⟩
      clear hL
      have hsm : s.size ≤ maxLen := by unfold maxLen; omega
      go_wp2_with fail
      refine (end_any s i _ hsm hii).mono ?_
      rintro e w4 ⟨rfl, rfl⟩
      have hge := endN_ge s i
      have hle := endN_le s i hii
      generalize endN s i = e9 at *
      have c0 := hL3.c0
      have c1 := hL3.c1
      have c2 := hL3.c2
      have c3 := hL3.c3
      have c4 := hL3.c4
      have hfin : Below w.heap.size w w4 := by
        refine hbel.trans ⟨hO3.os, hO3.tape, hO3.output, ?_, fun j hj => ?_⟩
        · rw [hO3.size]; simp
        · rw [hO3.block j (by omega), Below.heap_alloc _ _ _ (by omega)]
      go_wp2
      go_ret
      exact ⟨rfl, hfin⟩
end Go.Proofs.Ybulkekgy
