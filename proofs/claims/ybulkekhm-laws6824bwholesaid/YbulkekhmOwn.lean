import Derived.WalkKit
namespace Go.Proofs.Ybulkekhm
open Go.RowKit

/-- A mark at which the walk stands still. -/
def Here (p : Prop) : Prop := p
theorem Here.of {p : Prop} (h : Here p) : p := h
theorem Here.out {p : Prop} (h : p) : Here p := h

theorem grownBy_of_alloc {w w' : World} {o : Obj} {row : Option Nat} (h : (w.alloc o).grownBy w' row) : w.grownBy w' row :=
  ⟨h.os, h.tape, h.output, Nat.le_trans (by simp) h.size, fun k hk hr => (h.block k (by simp; omega) hr).trans (Below.heap_alloc w o k hk)⟩

/-- 'out = append(out, x)', x one cell that the walk has just laid in a block of its own, out nil or the call's own row. -/
theorem wpList_append_one {P : Program} {w : World} {x : Value} {ops : Array Oper} {rest : List Oper} {o : Oper} {a : Act} {Q : Exit → Act → World → Prop} (hgd : o.guard = none) (s y : Operand) (t : TypeId)
    (ho : o.op = .call { callee := .builtin .append, args := #[s, y], argTypes := #[t, t] })
    (base : Nat) (e : TypeId) (i : TypeInfo) (z : Value) (bytes : Nat) (ht : P.underlying t = some (.slice e)) (hi : P.info? e = some i) (hz : i.zero = some z)
    (hsize : i.size = 1) (hby : i.bytes = bytes) (hzs : z.cells.size = 1)
    (v : Value) (n : Nat) (xs : List Value) (hs : a.eval s = v) (hown : w.ownsRow base e 1 v n xs)
    (hx : a.eval y = .slice (some ⟨w.heap.size, 0, none⟩) 1 1) (h1 : x.oneCell' = true)
    (h63 : n + 1 ≤ maxLen) (hbytes : (n + 1) * bytes ≤ 140737488355328) (hbase : base ≤ w.heap.size)
    (h : ∀ v' w', w'.ownsRow base e 1 v' (n + 1) (xs ++ [x]) → w.grownBy w' v.ownBlock → wpList P ops Q rest (a.put o.dst v') w') : wpList P ops Q (o :: rest) a (w.alloc (.cells #[x] e)) := by
  refine wpList_append_own _ hgd s y t ho base e i z 1 bytes ht hi hz hsize hby hzs (by decide) v n xs hs (hown.alloc _) ⟨w.heap.size, 0, none⟩ 1 1 [x] hx (by simp) ?_ ?_ h63 hbytes (by simp; omega) ?_
  · intro j u hj
    match j, hj with
    | 0, hj => simp at hj; subst hj; simp [Addr.add]
  · intro u hu
    simp at hu
    subst hu
    exact h1
  · intro v' w' h2 h3 _
    exact h v' w' h2 (grownBy_of_alloc h3)

end Go.Proofs.Ybulkekhm
