import Derived.WalkKit
namespace Go.Proofs.Ybulkeklg
open Go.RowKit

theorem grownBy_of_alloc {w w' : World} {o : Obj} {row : Option Nat} (h : (w.alloc o).grownBy w' row) : w.grownBy w' row :=
  ⟨h.os, h.tape, h.output, Nat.le_trans (by simp) h.size, fun k hk hr => (h.block k (by simp; omega) hr).trans (Below.heap_alloc w o k hk)⟩

/-- 'out = append(out, x)', x one element of 'size' cells that the walk has just laid in a block of its own, out nil or the call's own row. -/
theorem wpList_append_el {P : Program} {w : World} {cs : Array Value} {ops : Array Oper} {rest : List Oper} {o : Oper} {a : Act} {Q : Exit → Act → World → Prop} (hgd : o.guard = none) (s y : Operand) (t : TypeId)
    (ho : o.op = .call { callee := .builtin .append, args := #[s, y], argTypes := #[t, t] })
    (base : Nat) (e : TypeId) (i : TypeInfo) (z : Value) (size bytes : Nat) (ht : P.underlying t = some (.slice e)) (hi : P.info? e = some i) (hz : i.zero = some z)
    (hsize : i.size = size) (hby : i.bytes = bytes) (hzs : z.cells.size = size) (hsz : 0 < size)
    (v : Value) (n : Nat) (xs : List Value) (hs : a.eval s = v) (hown : w.ownsRow base e size v n xs) (b : Nat)
    (hx : a.eval y = .slice (some ⟨b, 0, none⟩) 1 1) (hb : b = w.heap.size) (hcs : cs.size = size) (h1 : ∀ u ∈ cs.toList, u.oneCell' = true)
    (h63 : n + 1 ≤ maxLen) (hbytes : (n + 1) * bytes ≤ 140737488355328) (hbase : base ≤ w.heap.size)
    (h : ∀ v' w', w'.ownsRow base e size v' (n + 1) (xs ++ cs.toList) → w.grownBy w' v.ownBlock → v' ≠ .slice none 0 0 → wpList P ops Q rest (a.put o.dst v') w') : wpList P ops Q (o :: rest) a (w.alloc (.cells cs e)) := by
  subst hb
  refine wpList_append_own _ hgd s y t ho base e i z size bytes ht hi hz hsize hby hzs hsz v n xs hs (hown.alloc _) ⟨w.heap.size, 0, none⟩ 1 1 cs.toList hx (by simp [hcs]) ?_ h1 h63 hbytes (by simp; omega) ?_
  · intro j u hj
    rw [Addr.add_lit, Nat.zero_add, World.cell?_alloc_mark]
    simpa using hj
  · intro v' w' h2 h3 h4
    exact h v' w' h2 (grownBy_of_alloc h3) (fun hv => by have := (h4.1 hv).2; omega)

end Go.Proofs.Ybulkeklg
