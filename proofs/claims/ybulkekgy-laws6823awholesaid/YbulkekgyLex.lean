import Derived.Test.YbulkekgyLeaf
import Derived.Deep.Cut
import Derived.Deep.DeepCutAuto
import Derived.Deep.QuietTactic
import Derived.BigQuiet
namespace Go.Proofs.Ybulkekgy
open Go.RowKit

/-- The block b holds a Lexer with these fields. -/
def Lex (b : Nat) (s : ByteArray) (k : Nat) (ln : Int) (al : Bool) (mk : Int) (w : World) : Prop :=
  w.heap[b]? = some (.cells #[.string s, .int .i64 (k : Int), .int .i64 ln, .bool al, .int .u8 mk] 27 (0, 0))

theorem Lex.c0 {b s k ln al mk w} (h : Lex b s k ln al mk w) : w.cell? ⟨b, 0, none⟩ = some (.string s) := by unfold Lex at h; simp [World.cell?, h]
theorem Lex.c1 {b s k ln al mk w} (h : Lex b s k ln al mk w) : w.cell? ⟨b, 1, none⟩ = some (.int .i64 (k : Int)) := by unfold Lex at h; simp [World.cell?, h]
theorem Lex.c2 {b s k ln al mk w} (h : Lex b s k ln al mk w) : w.cell? ⟨b, 2, none⟩ = some (.int .i64 ln) := by unfold Lex at h; simp [World.cell?, h]
theorem Lex.c3 {b s k ln al mk w} (h : Lex b s k ln al mk w) : w.cell? ⟨b, 3, none⟩ = some (.bool al) := by unfold Lex at h; simp [World.cell?, h]
theorem Lex.c4 {b s k ln al mk w} (h : Lex b s k ln al mk w) : w.cell? ⟨b, 4, none⟩ = some (.int .u8 mk) := by unfold Lex at h; simp [World.cell?, h]
theorem Lex.f1 {b s k ln al mk w} (h : Lex b s k ln al mk w) : w.frozen? ⟨b, 1, none⟩ = false := by unfold Lex at h; simp [World.frozen?, h]
theorem Lex.drewN {b s k ln al mk w} (h : Lex b s k ln al mk w) (n : Nat) : Lex b s k ln al mk (w.drewN n) := h
theorem Lex.set {b s k ln al mk w} (h : Lex b s k ln al mk w) (j : Nat) : Lex b s j ln al mk (w.setCell ⟨b, 1, none⟩ (.int .i64 (j : Int))) := by
  unfold Lex at h ⊢
  simp [World.setCell, Array.getElem?_modify, h]

/-- w' is w but for block b and the count of draws. -/
structure Only (b : Nat) (w w' : World) : Prop where
  os : w'.os = w.os
  tape : w'.tape = w.tape
  output : w'.output = w.output
  size : w'.heap.size = w.heap.size
  block : ∀ k, k ≠ b → w'.heap[k]? = w.heap[k]?
theorem Only.refl (b : Nat) (w : World) : Only b w w := ⟨rfl, rfl, rfl, rfl, fun _ _ => rfl⟩
theorem Only.trans {b : Nat} {w w' w'' : World} (h : Only b w w') (k : Only b w' w'') : Only b w w'' :=
  ⟨k.os.trans h.os, k.tape.trans h.tape, k.output.trans h.output, k.size.trans h.size, fun i hi => (k.block i hi).trans (h.block i hi)⟩
theorem Only.drewN {b : Nat} {w w' : World} (h : Only b w w') (n : Nat) : Only b w (w'.drewN n) := ⟨h.os, h.tape, h.output, h.size, h.block⟩
theorem Only.set {b : Nat} {w w' : World} (h : Only b w w') (o : Nat) (v : Value) : Only b w (w'.setCell ⟨b, o, none⟩ v) :=
  h.trans ⟨rfl, rfl, rfl, by simp [World.setCell], fun k hk => Below.heap_setCell _ _ _ _ hk⟩

set_option maxHeartbeats 400000 in
theorem digits_any (b : Nat) (s : ByteArray) (i : Nat) (ln : Int) (al : Bool) (mk : Int) (w : World) (hs : s.size ≤ maxLen) (hi : i ≤ s.size) (hL : Lex b s i ln al mk w) :
    Calls Yba.prog 6 #[.pointer (some ⟨b, 0, none⟩)] w fun e w' => e = .returned (.tuple #[]) ∧ Lex b s (skipN s i) ln al mk w' ∧ Only b w w' := by
  unfold maxLen at hs
  go_enter Yba.func6, Yba.ntmps6
  go_wp2
  go_loopw [] (fun wr => ∃ k : Nat, k ≤ s.size ∧ Lex b s k ln al mk wr ∧ Only b w wr ∧ skipN s k = skipN s i) (fun wr => s.size - (intOf ((wr.cell? ⟨b, 1, none⟩).getD undef)).toNat)
  case atStart => exact ⟨i, hi, hL, Only.refl _ _, rfl⟩
  case round =>
    obtain ⟨k, hk, hLr, hO, hsk⟩ := hrel
    have HS : Hid (skipN s k = skipN s i) := hsk
    clear hsk
    have c0 := hLr.c0
    have c1 := hLr.c1
    by_cases hlt : k < s.size
    · have hy := skipN_yes s k hlt
      have hn := skipN_no s k hlt
      rw [at_eq hlt] at hy hn
      have HY : Hid (digB ((s[k]).toNat : Int) = true → skipN s k = skipN s (k + 1)) := hy
      have HN : Hid (digB ((s[k]).toNat : Int) = false → skipN s k = k) := hn
      clear hy hn
      have HI := fun wq => isDigit_any ((s[k]).toNat : Int) wq
      cases hd : digB ((s[k]).toNat : Int)
      · rw [hd] at HI
        go_wp2
        go_quiet ((go_at_call 7; exact Calls.quiet_of_same (HI _)))
        go_wp2
        go_end0
        refine ⟨rfl, ?_, hO.drewN _⟩
        rw [← HS.out, HN.out hd]
        exact hLr.drewN _
      · rw [hd] at HI
        go_wp2
        go_quiet ((go_at_call 7; exact Calls.quiet_of_same (HI _)))
        have f1 := hLr.f1
        go_wp2
        go_roundw
        case rel => exact ⟨k + 1, by omega, (hLr.drewN _).set (k + 1), (hO.drewN _).set _ _, by rw [← HY.out hd]; exact HS.out⟩
        case measure =>
          have q : ((wr.drewN nq).setCell ⟨b, 1, none⟩ (.int .i64 ((k : Int) + 1))).cell? ⟨b, 1, none⟩ = some (.int .i64 ((k : Int) + 1)) := ((hLr.drewN nq).set (k + 1)).c1
          rw [q, c1]
          simp [intOf]
          omega
    · have hk2 := skipN_end s k hlt
      have HK : Hid (skipN s k = k) := hk2
      clear hk2
      go_wp2
      go_quiet (fail)
      go_wp2
      go_end0
      refine ⟨rfl, ?_, hO.drewN _⟩
      rw [← HS.out, HK.out]
      exact hLr.drewN _
end Go.Proofs.Ybulkekgy
