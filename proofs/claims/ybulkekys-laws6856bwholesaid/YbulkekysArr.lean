import Derived.WalkKit
import Derived.Deep.Draws
import Derived.Test.YbulkekysSort
namespace Go.Proofs.Ybulkekys
open Go.RowKit

/-- A mark at which the walk stands still. -/
def Here (p : Prop) : Prop := p
theorem Here.of {p : Prop} (h : Here p) : p := h
theorem Here.out {p : Prop} (h : p) : Here p := h

/-- Numbers as cells. -/
def nv (k : IntKind) (l : List Nat) : List Value := l.map fun (x : Nat) => Value.int k (x : Int)
/-- Bools as cells. -/
def bv (l : List Bool) : List Value := l.map .bool
theorem nv_len (k : IntKind) (l : List Nat) : (nv k l).length = l.length := by simp [nv]
theorem bv_len (l : List Bool) : (bv l).length = l.length := by simp [bv]
theorem nv_at (k : IntKind) (l : List Nat) (j : Nat) (h : j < l.length) : (nv k l)[j]? = some (.int k ((l.getD j 0 : Nat) : Int)) := by
  simp [nv, List.getD, List.getElem?_eq_getElem h]
theorem bv_at (l : List Bool) (j : Nat) (h : j < l.length) : (bv l)[j]? = some (.bool (l.getD j false)) := by
  simp [bv, List.getD, List.getElem?_eq_getElem h]
theorem nv_set (k : IntKind) (l : List Nat) (j x : Nat) : (nv k l).set j (.int k (x : Int)) = nv k (l.set j x) := by simp [nv, List.map_set]
theorem bv_set (l : List Bool) (j : Nat) (x : Bool) : (bv l).set j (.bool x) = bv (l.set j x) := by simp [bv, List.map_set]
theorem nv_app (k : IntKind) (l : List Nat) (x : Nat) : nv k l ++ [.int k (x : Int)] = nv k (l ++ [x]) := by simp [nv]
theorem nv_one (k : IntKind) (l : List Nat) : ∀ u ∈ nv k l, u.oneCell' = true := by
  intro u hu
  simp only [nv, List.mem_map] at hu
  obtain ⟨_, _, rfl⟩ := hu
  rfl

/-- Block g is a row of 'cap' cells of type e, not frozen; its first n are xs. -/
def Arr (w : World) (g : Nat) (e : TypeId) (n cap : Nat) (xs : List Value) : Prop := w.ownsRow 0 e 1 (.slice (some ⟨g, 0, none⟩) n cap) n xs

theorem Arr.len {w : World} {g e n cap : Nat} {xs : List Value} (h : Arr w g e n cap xs) : xs.length = n := by simpa using h.1
theorem Arr.cut {w : World} {g e n cap : Nat} {xs : List Value} (h : Arr w g e n cap xs) : n ≤ cap ∧ cap ≤ maxLen := by
  rcases h.2 with ⟨h', _⟩ | ⟨g', cap', cur, h', _, _, h1, h2, _⟩
  · simp at h'
  · simp only [Value.slice.injEq, true_and] at h'
    rw [h'.2]; exact ⟨h1, h2⟩
theorem Arr.lt {w : World} {g e n cap : Nat} {xs : List Value} (h : Arr w g e n cap xs) : g < w.heap.size := (World.ownsRow.lt h g rfl).2
theorem Arr.cell {w : World} {g e n cap : Nat} {xs : List Value} (h : Arr w g e n cap xs) (j : Nat) (hj : j < n) : w.cell? ⟨g, j, none⟩ = xs[j]? := World.ownsRow.cellAt h j (by omega)
theorem Arr.fr {w : World} {g e n cap : Nat} {xs : List Value} (h : Arr w g e n cap xs) (j : Nat) : w.frozen? ⟨g, j, none⟩ = false := World.ownsRow.frozenAt h j
theorem Arr.set {w : World} {g e n cap : Nat} {xs : List Value} (h : Arr w g e n cap xs) (j : Nat) (u : Value) : Arr (w.setCell ⟨g, j, none⟩ u) g e n cap (xs.set j u) := (World.ownsRow.stored h j u).1
theorem Arr.blk {w w' : World} {g e n cap : Nat} {xs : List Value} (h : Arr w g e n cap xs) (hb : w'.heap[g]? = w.heap[g]?) : Arr w' g e n cap xs := by
  obtain ⟨h1, h2⟩ := h
  refine ⟨h1, ?_⟩
  rcases h2 with ⟨h', _⟩ | ⟨g', cap', cur, h', hb0, hg, rest⟩
  · simp at h'
  · refine .inr ⟨g', cap', cur, h', hb0, ?_, rest⟩
    simp only [Value.slice.injEq, Option.some.injEq, Addr.mk.injEq, and_true, true_and] at h'
    rw [← h'.1, hb, h'.1]
    exact hg
theorem Arr.drewN {w : World} {g e n cap : Nat} {xs : List Value} (h : Arr w g e n cap xs) (q : Nat) : Arr (w.drewN q) g e n cap xs := h.blk rfl
theorem Arr.drew {w : World} {g e n cap : Nat} {xs : List Value} (h : Arr w g e n cap xs) : Arr w.drew g e n cap xs := h.blk rfl
theorem Arr.alloc {w : World} {g e n cap : Nat} {xs : List Value} (h : Arr w g e n cap xs) (o : Obj) : Arr (w.alloc o) g e n cap xs := h.blk (Below.heap_alloc w o g h.lt)
theorem Arr.other {w : World} {g e n cap : Nat} {xs : List Value} (h : Arr w g e n cap xs) (b o : Nat) (u : Value) (hb : g ≠ b) : Arr (w.setCell ⟨b, o, none⟩ u) g e n cap xs := h.blk (Below.heap_setCell w _ u g hb)
theorem Arr.below {w w' : World} {g e n cap B : Nat} {xs : List Value} (h : Arr w g e n cap xs) (hb : Below B w w') (hg : g < B) : Arr w' g e n cap xs := h.blk (hb.block g hg)
theorem Arr.grown {w w' : World} {g e n cap : Nat} {xs : List Value} {row : Option Nat} (h : Arr w g e n cap xs) (hb : w.grownBy w' row) (hg : some g ≠ row) : Arr w' g e n cap xs := h.blk (hb.block g h.lt hg)
theorem Arr.nat {w : World} {g e n cap : Nat} {k : IntKind} {l : List Nat} (h : Arr w g e n cap (nv k l)) (j : Nat) (hj : j < n) : w.cell? ⟨g, j, none⟩ = some (.int k ((l.getD j 0 : Nat) : Int)) := by
  have hl := h.len
  rw [nv_len] at hl
  rw [h.cell j hj, nv_at k l j (by omega)]
theorem Arr.bool {w : World} {g e n cap : Nat} {l : List Bool} (h : Arr w g e n cap (bv l)) (j : Nat) (hj : j < n) : w.cell? ⟨g, j, none⟩ = some (.bool (l.getD j false)) := by
  have hl := h.len
  rw [bv_len] at hl
  rw [h.cell j hj, bv_at l j (by omega)]
theorem Arr.setNat {w : World} {g e n cap : Nat} {k : IntKind} {l : List Nat} (h : Arr w g e n cap (nv k l)) (j x : Nat) : Arr (w.setCell ⟨g, j, none⟩ (.int k (x : Int))) g e n cap (nv k (l.set j x)) := by
  rw [← nv_set]; exact h.set j _
theorem Arr.setBool {w : World} {g e n cap : Nat} {l : List Bool} (h : Arr w g e n cap (bv l)) (j : Nat) (x : Bool) : Arr (w.setCell ⟨g, j, none⟩ (.bool x)) g e n cap (bv (l.set j x)) := by
  rw [← bv_set]; exact h.set j _
theorem Arr.take {w : World} {g e n cap : Nat} {xs : List Value} (h : Arr w g e n cap xs) (m : Nat) (hm : m ≤ n) : Arr w g e m cap (xs.take m) := by
  have hl := h.len
  obtain ⟨h1, h2⟩ := h
  refine ⟨by simp; omega, ?_⟩
  rcases h2 with ⟨h', _⟩ | ⟨g', cap', cur, h', hb0, hg, hnc, hcm, hcs, htk⟩
  · simp at h'
  · refine .inr ⟨g', cap', cur, ?_, hb0, hg, by omega, hcm, hcs, ?_⟩
    · simp only [Value.slice.injEq, Option.some.injEq, Addr.mk.injEq, and_true, true_and] at h' ⊢
      exact h'
    · rw [← htk, List.take_take, Nat.mul_one, Nat.mul_one, Nat.min_eq_left hm]
theorem Arr.of {w : World} {base g e n cap : Nat} {xs : List Value} (h : w.ownsRow base e 1 (.slice (some ⟨g, 0, none⟩) n cap) n xs) : Arr w g e n cap xs := by
  obtain ⟨h1, h2⟩ := h
  refine ⟨h1, ?_⟩
  rcases h2 with h' | ⟨g', cap', cur, h', _, rest⟩
  · exact .inl h'
  · exact .inr ⟨g', cap', cur, h', Nat.zero_le _, rest⟩
theorem Arr.made {w : World} {base g e n : Nat} {z : Value} (hz : z.cells = #[z]) (h : w.ownsRow base e 1 (.slice (some ⟨g, 0, none⟩) n n) n (madeCells z.cells (n * 1)).toList) : Arr w g e n n (List.replicate n z) := by
  have := Arr.of h
  rw [hz, Nat.mul_one, toList_madeCells_one] at this
  exact this
theorem nv_zero (k : IntKind) (n : Nat) : List.replicate n (Value.int k 0) = nv k (List.replicate n 0) := by simp [nv]
theorem bv_zero (n : Nat) : List.replicate n (Value.bool false) = bv (List.replicate n false) := by simp [bv]

theorem Arr.empty (w : World) (e : TypeId) : Arr (w.alloc (.cells #[] e)) w.heap.size e 0 0 [] := World.ownsRow_made w #[] 0 (Nat.zero_le _) (Nat.zero_le _) rfl

/-- Block b holds a struct's cells. -/
def Box (w : World) (b : Nat) (e : TypeId) (vs : Array Value) : Prop := w.heap[b]? = some (.cells vs e (0, 0))
theorem Box.cell {w : World} {b e : Nat} {vs : Array Value} (h : Box w b e vs) (j : Nat) : w.cell? ⟨b, j, none⟩ = vs[j]? := by unfold Box at h; simp [World.cell?, h]
theorem Box.fr {w : World} {b e : Nat} {vs : Array Value} (h : Box w b e vs) (j : Nat) : w.frozen? ⟨b, j, none⟩ = false := by unfold Box at h; simp [World.frozen?, h]
theorem Box.blk {w w' : World} {b e : Nat} {vs : Array Value} (h : Box w b e vs) (hb : w'.heap[b]? = w.heap[b]?) : Box w' b e vs := by unfold Box at h ⊢; rw [hb, h]
theorem Box.lt {w : World} {b e : Nat} {vs : Array Value} (h : Box w b e vs) : b < w.heap.size := (Array.getElem?_eq_some_iff.1 h).1
theorem Box.set {w : World} {b e : Nat} {vs : Array Value} (h : Box w b e vs) (j : Nat) (u : Value) : Box (w.setCell ⟨b, j, none⟩ u) b e (vs.setIfInBounds j u) := by
  unfold Box at h ⊢
  simp [World.setCell, Array.getElem?_modify, h]

theorem below_drewN {B : Nat} {w w' : World} (h : Below B w w') (n : Nat) : Below B w (w'.drewN n) := ⟨h.os, h.tape, h.output, h.size, h.block⟩
theorem grownBy_of_alloc {w w' : World} {o : Obj} {row : Option Nat} (h : (w.alloc o).grownBy w' row) : w.grownBy w' row :=
  ⟨h.os, h.tape, h.output, Nat.le_trans (by simp) h.size, fun k hk hr => (h.block k (by simp; omega) hr).trans (Below.heap_alloc w o k hk)⟩

/-- 'make([]T, n)', one cell an element. -/
theorem wpList_make_arr {P : Program} {w : World} {ops : Array Oper} {rest : List Oper} {o : Oper} {a : Act} {Q : Exit → Act → World → Prop}
    (hg : o.guard = none) (l c : Operand) (t : TypeId) (hop : o.op = Op.makeSlice t l c)
    (e : TypeId) (i : TypeInfo) (z : Value) (bytes : Nat) (h1 : P.underlying t = some (.slice e)) (h2 : P.info? e = some i) (h3 : i.zero = some z) (h4 : i.size = 1) (h5 : i.bytes = bytes) (hz : z.cells = #[z])
    (kl kc : IntKind) (L C : Int) (n : Nat) (hl : a.eval l = .int kl L) (hc : a.eval c = .int kc C) (hL : L = (n : Int)) (hC : C = (n : Int)) (b2 : bytes * n ≤ 281474976710656) (b3 : n ≤ maxLen)
    (hK : ∀ w', Arr w' w.heap.size e n n (List.replicate n z) → w.grownBy w' none → wpList P ops Q rest (a.put o.dst (.slice (some ⟨w.heap.size, 0, none⟩) n n)) w') :
    wpList P ops Q (o :: rest) a w :=
  wpList_make_full w hg l c t hop w.heap.size e i z 1 h1 h2 h3 h4 kl kc L C n hl hc hL hC (by rw [h5]; exact b2) b3 (Nat.le_refl _) (fun w' ho hg => hK w' (Arr.made hz ho) hg)

/-- 'append(s, xs...)', s a row that is known by its block, one cell an element. -/
theorem run_append_arr {P : Program} (w : World) (t ty e : TypeId) (i : TypeInfo) (z : Value) (bytes : Nat) (ht : P.underlying t = some (.slice e)) (hi : P.info? e = some i) (hz : i.zero = some z)
    (hsize : i.size = 1) (hby : i.bytes = bytes) (hzs : z.cells.size = 1)
    (g n cap : Nat) (xs : List Value) (hown : Arr w g e n cap xs)
    (a : Addr) (m c : Nat) (news : List Value) (hl : news.length = m) (hnews : ∀ j u, news[j]? = some u → w.cell? (a.add j) = some u) (h1 : ∀ u ∈ news, u.oneCell' = true)
    (h63 : n + m ≤ maxLen) (hbytes : (n + m) * bytes ≤ 140737488355328) :
    ∃ g' cap' w', (Builtin.append_ #[t, t] ty #[.slice (some ⟨g, 0, none⟩) n cap, .slice (some a) m c]).run P w = .ok (.slice (some ⟨g', 0, none⟩) (n + m) cap') w' ∧
      Arr w' g' e (n + m) cap' (xs ++ news) ∧ w.grownBy w' (some g) ∧ (g' = g ∨ (g' = w.heap.size ∧ w.heap.size < w'.heap.size)) := by
  subst hby
  have hsmall : n + m ≤ 9223372036854775807 := by simp only [maxLen] at h63; omega
  have hxl := hown.len
  have hl1 : news.length = m * i.size := by rw [hsize]; omega
  have hlen : (xs ++ news).length = (n + m) * 1 := by rw [List.length_append, hxl, hl]; omega
  have hown' := hown
  rcases hown.2 with ⟨h', _⟩ | ⟨g', cap', cur, h', _, hg, hnc, hcm, hcs, htake⟩
  · simp at h'
  · simp only [Value.slice.injEq, Option.some.injEq, Addr.mk.injEq, and_true, true_and] at h'
    obtain ⟨rfl, rfl⟩ := h'
    by_cases hroom : n + m ≤ cap
    · have hfit : n * i.size + news.length ≤ cur.size := by rw [hsize, hl, hcs]; omega
      have hr := run_append_room (P := P) w t ty e i ht hi g n cap cur hg a m c news hl1 hnews h1 hroom hfit
      refine ⟨g, cap, _, hr, ⟨hlen, .inr ⟨g, cap, _, rfl, Nat.zero_le _, setRow_heap w g cur _ e _ hg, hroom, hcm, ?_, ?_⟩⟩, ⟨rfl, rfl, rfl, by simp, fun k _ hk => setRow_other w g k _ (fun e => hk (by rw [e]))⟩, .inl rfl⟩
      · simp only [hsize, List.size_toArray, List.length_append, List.length_take, List.length_drop, Array.length_toList]
        omega
      · rw [hsize, htake, ← hlen]
        exact List.take_left
    · have holds : ∀ j u, xs[j]? = some u → w.cell? ((⟨g, 0, none⟩ : Addr).add j) = some u := World.ownsRow.cells hown' (g := g) rfl
      have hr := run_append_grow (P := P) w t ty e i z ht hi hz ⟨g, 0, none⟩ n cap xs (by rw [hsize]; omega) holds a m c news hl1 hnews (by omega) (by omega) (growslice_fits (by omega) hbytes)
      have hge := grownCap_ge w (n + m) cap e
      have hcm2 : grownCap w (n + m) cap e ≤ maxLen := grownCap_le_maxLen w (n + m) cap e h63
      refine ⟨w.heap.size, _, _, hr, ⟨hlen, .inr ⟨w.heap.size, _, _, rfl, Nat.zero_le _, heap_alloc_new w.drew _, hge, hcm2, ?_, ?_⟩⟩, ⟨rfl, rfl, rfl, by simp, fun k hk _ => Below.heap_alloc w.drew _ k hk⟩, .inr ⟨rfl, by simp⟩⟩
      · simp only [Array.size_append, List.size_toArray, size_zeroCells, hzs, hxl, hl]
        omega
      · simp only [Array.toList_append, List.append_assoc]
        rw [← List.append_assoc, ← hlen]
        exact List.take_left

/-- 'out = append(out, x)', x one cell that the walk has just laid in a block of its own. -/
theorem wpList_append_arr {P : Program} {w : World} {x : Value} {ops : Array Oper} {rest : List Oper} {o : Oper} {a : Act} {Q : Exit → Act → World → Prop} (hgd : o.guard = none) (s y : Operand) (t : TypeId)
    (ho : o.op = .call { callee := .builtin .append, args := #[s, y], argTypes := #[t, t] })
    (e : TypeId) (i : TypeInfo) (z : Value) (bytes : Nat) (ht : P.underlying t = some (.slice e)) (hi : P.info? e = some i) (hz : i.zero = some z)
    (hsize : i.size = 1) (hby : i.bytes = bytes) (hzs : z.cells.size = 1)
    (g n cap : Nat) (xs : List Value) (hs : a.eval s = .slice (some ⟨g, 0, none⟩) n cap) (hown : Arr w g e n cap xs)
    (hx : a.eval y = .slice (some ⟨w.heap.size, 0, none⟩) 1 1) (h1 : x.oneCell' = true)
    (h63 : n + 1 ≤ maxLen) (hbytes : (n + 1) * bytes ≤ 140737488355328)
    (h : ∀ g' cap' w', Arr w' g' e (n + 1) cap' (xs ++ [x]) → w.grownBy w' (some g) → (g' = g ∨ (w.heap.size ≤ g' ∧ g' < w'.heap.size)) → wpList P ops Q rest (a.put o.dst (.slice (some ⟨g', 0, none⟩) (n + 1) cap')) w') : wpList P ops Q (o :: rest) a (w.alloc (.cells #[x] e)) := by
  refine wpList_plain hgd fun K hK' => ?_
  obtain ⟨g', cap', w', hr, h2, h3, h4⟩ := run_append_arr (P := P) (w.alloc (.cells #[x] e)) t o.type e i z bytes ht hi hz hsize hby hzs g n cap xs (hown.alloc _) ⟨w.heap.size, 0, none⟩ 1 1 [x] rfl (by
    intro j u hj
    match j, hj with
    | 0, hj => simp at hj; subst hj; simp [Addr.add]) (by
    intro u hu
    simp at hu
    subst hu
    exact h1) h63 hbytes
  unfold Oper.wp execOp
  simp only [ho, resolve, invoke, builtin, Sem.run_bind, Sem.run_pure, Result.andThen_ok, List.map_toArray, List.map_cons, List.map_nil, hs, hx, hr]
  refine hK' _ _ (h g' cap' w' h2 (grownBy_of_alloc h3) ?_)
  rcases h4 with h4 | ⟨h4, h5⟩
  · exact .inl h4
  · rw [World.size_alloc] at h4 h5
    exact .inr ⟨by omega, by omega⟩

/-- 'append(s, xs...)', xs a row that is known by its block. -/
theorem wpList_append_row {P : Program} {w : World} {ops : Array Oper} {rest : List Oper} {o : Oper} {a : Act} {Q : Exit → Act → World → Prop} (hgd : o.guard = none) (s y : Operand) (t : TypeId)
    (ho : o.op = .call { callee := .builtin .append, args := #[s, y], argTypes := #[t, t] })
    (e : TypeId) (i : TypeInfo) (z : Value) (bytes : Nat) (ht : P.underlying t = some (.slice e)) (hi : P.info? e = some i) (hz : i.zero = some z)
    (hsize : i.size = 1) (hby : i.bytes = bytes) (hzs : z.cells.size = 1)
    (g n cap : Nat) (xs : List Value) (hs : a.eval s = .slice (some ⟨g, 0, none⟩) n cap) (hown : Arr w g e n cap xs)
    (g2 m c2 : Nat) (news : List Value) (hx : a.eval y = .slice (some ⟨g2, 0, none⟩) m c2) (hown2 : Arr w g2 e m c2 news) (h1 : ∀ u ∈ news, u.oneCell' = true)
    (h63 : n + m ≤ maxLen) (hbytes : (n + m) * bytes ≤ 140737488355328)
    (h : ∀ g' cap' w', Arr w' g' e (n + m) cap' (xs ++ news) → w.grownBy w' (some g) → (g' = g ∨ (w.heap.size ≤ g' ∧ g' < w'.heap.size)) → wpList P ops Q rest (a.put o.dst (.slice (some ⟨g', 0, none⟩) (n + m) cap')) w') : wpList P ops Q (o :: rest) a w := by
  refine wpList_plain hgd fun K hK' => ?_
  obtain ⟨g', cap', w', hr, h2, h3, h4⟩ := run_append_arr (P := P) w t o.type e i z bytes ht hi hz hsize hby hzs g n cap xs hown ⟨g2, 0, none⟩ m c2 news hown2.len (by
    intro j u hj
    rw [Addr.add_lit, Nat.zero_add, hown2.cell j (by rw [← hown2.len]; exact (List.getElem?_eq_some_iff.1 hj).1)]
    exact hj) h1 h63 hbytes
  unfold Oper.wp execOp
  simp only [ho, resolve, invoke, builtin, Sem.run_bind, Sem.run_pure, Result.andThen_ok, List.map_toArray, List.map_cons, List.map_nil, hs, hx, hr]
  refine hK' _ _ (h g' cap' w' h2 h3 ?_)
  rcases h4 with h4 | ⟨h4, h5⟩
  · exact .inl h4
  · exact .inr ⟨by omega, by omega⟩
end Go.Proofs.Ybulkekys
