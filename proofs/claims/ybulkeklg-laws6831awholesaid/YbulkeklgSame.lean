import Derived.Test.YbulkeklgChan
import Derived.WalkSpells
namespace Go.Proofs.Ybulkeklg
open Go.RowKit

theorem ba_self (s : ByteArray) : (s == s) = true := by
  cases s with
  | mk d => exact (by simp : (d == d) = true)
theorem run_len_past {w : World} {s : ByteArray} {k m : Nat} (h : w.heap[m]? = some (pastObj s k)) : (Builtin.len_ #[33] 3 #[.map (some m)]).run Yba.prog w = .ok (.int .i64 1) w := by
  unfold pastObj at h
  simp [Builtin.len_, MapKept.run_getObj_map h, run_underlying Yba.underlying33]
  rfl
theorem run_look_past {w : World} {s : ByteArray} {k m : Nat} (h : w.heap[m]? = some (pastObj s k)) : (Instr.lookup 33 (.map (some m)) (.string s) true).run Yba.prog w = .ok (.tuple #[.int .u64 (k : Int), .bool true]) w := by
  unfold pastObj at h
  have hf : Instr.findNow .string (.string s) [({ key := .string s, val := .int .u64 (k : Int), born := 0 } : MapEntry)] 0 = some (some (0, .int .u64 (k : Int))) := by simp [Instr.findNow, Instr.sameNow, ba_self]
  have hc : (Instr.checkKey false 10000 9 (.string s)).run Yba.prog w = .ok () w := MapKept.run_checkKey (k := .string s) Yba.underlying9 (by simp [MapKept.IsKey]) false 9999
  simp [Instr.lookup, run_underlying Yba.underlying33, MapKept.run_getObj_map h, hc, MapKept.run_findKey Yba.underlying9 hf, Result.andThen]
theorem past_alloc2 {w : World} {s : ByteArray} {k m : Nat} (h : w.heap[m]? = some (pastObj s k)) (o1 o2 : Obj) : ((w.alloc o1).alloc o2).heap[m]? = some (pastObj s k) := by
  have hl := (Array.getElem?_eq_some_iff.1 h).1
  rw [Below.heap_alloc _ _ _ (by simp; omega), Below.heap_alloc _ _ _ hl]
  exact h

set_option maxHeartbeats 1000000 in
set_option maxRecDepth 100000 in
theorem same_none (s : ByteArray) (am fl : Int) (k : Nat) (w : World) :
    Calls Yba.prog 8 #[.agg (recL s am fl k none).toArray, .agg (recL s am fl k none).toArray] w fun e w' => e = .returned (.bool true) ∧ Below w.heap.size w w' := by
  have he := fun (w : World) (r : Option Nat) => run_eql_map_nil (P := Yba.prog) w 33 9 34 r Yba.underlying33
  have hq := fun (w : World) (r : Option Nat) => run_neq_map_nil (P := Yba.prog) w 33 9 34 r Yba.underlying33
  unfold recL
  go_enter Yba.func8, Yba.ntmps8
  go_wp2
  go_ret
  exact ⟨rfl, ((Below.refl _ _).alloc (Nat.le_refl _) _).alloc (by simp) _⟩

set_option maxHeartbeats 1000000 in
set_option maxRecDepth 100000 in
theorem same_some (s : ByteArray) (am fl : Int) (k m m' : Nat) (w : World) (h1 : w.heap[m]? = some (pastObj s k)) (h2 : w.heap[m']? = some (pastObj s k)) :
    Calls Yba.prog 8 #[.agg (recL s am fl k (some m)).toArray, .agg (recL s am fl k (some m')).toArray] w fun e w' => e = .returned (.bool true) ∧ Below w.heap.size w w' := by
  have he := fun (w : World) (r : Option Nat) => run_eql_map_nil (P := Yba.prog) w 33 9 34 r Yba.underlying33
  have hq := fun (w : World) (r : Option Nat) => run_neq_map_nil (P := Yba.prog) w 33 9 34 r Yba.underlying33
  have hl1 := fun o1 o2 => run_len_past (past_alloc2 h1 o1 o2)
  have hl2 := fun o1 o2 => run_len_past (past_alloc2 h2 o1 o2)
  have hk1 := fun o1 o2 => run_look_past (past_alloc2 h1 o1 o2)
  have hk2 := fun o1 o2 => run_look_past (past_alloc2 h2 o1 o2)
  unfold recL
  go_enter Yba.func8, Yba.ntmps8
  go_wp2
  go_ret
  exact ⟨rfl, ((Below.refl _ _).alloc (Nat.le_refl _) _).alloc (by simp) _⟩

theorem same_any (s : ByteArray) (am fl : Int) (k : Nat) (p p' : Option Nat) (b b' : Nat) (w : World) (h1 : PastOk w b s fl k p) (h2 : PastOk w b' s fl k p') :
    Calls Yba.prog 8 #[.agg (recL s am fl k p).toArray, .agg (recL s am fl k p').toArray] w fun e w' => e = .returned (.bool true) ∧ Below w.heap.size w w' := by
  rcases h1 with ⟨hf, rfl⟩ | ⟨hf, m, rfl, _, hm⟩
  · rcases h2 with ⟨_, rfl⟩ | ⟨hf', _⟩
    · exact same_none s am fl k w
    · rw [hf] at hf'; cases hf'
  · rcases h2 with ⟨hf', _⟩ | ⟨_, m', rfl, _, hm'⟩
    · rw [hf] at hf'; cases hf'
    · exact same_some s am fl k m m' w hm hm'
end Go.Proofs.Ybulkeklg
