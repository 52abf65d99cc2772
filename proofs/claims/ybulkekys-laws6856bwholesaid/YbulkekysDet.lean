import Derived.Test.YbulkekysArr
import Derived.Test.YbulkekysDfs
namespace Go.Proofs.Ybulkekys
open Go.RowKit

/-! Rows given by functions. -/
def mr (n : Nat) (f : Nat → Value) : List Value := (List.range n).map f
theorem mr_len (n : Nat) (f : Nat → Value) : (mr n f).length = n := by simp [mr]
theorem mr_at (n : Nat) (f : Nat → Value) (j : Nat) (h : j < n) : (mr n f)[j]? = some (f j) := by simp [mr, h]
theorem mr_congr (n : Nat) (f g : Nat → Value) (h : ∀ j, j < n → f j = g j) : mr n f = mr n g := List.map_congr_left (fun j hj => h j (List.mem_range.1 hj))
theorem mr_set (n : Nat) (f : Nat → Value) (j : Nat) (x : Value) : (mr n f).set j x = mr n (upd f j x) := by
  refine List.ext_getElem? fun k => ?_
  rw [List.getElem?_set]
  by_cases hk : k < n
  · by_cases e : j = k
    · subst e; rw [mr_at _ (upd f j x) _ hk, upd_same]; simp [mr_len, hk]
    · rw [if_neg e, mr_at _ _ _ hk, mr_at _ _ _ hk, upd_other _ _ _ _ (fun h => e h.symm)]
  · have h1 : ∀ f, (mr n f)[k]? = none := fun f => List.getElem?_eq_none (by rw [mr_len]; omega)
    rw [h1, h1, mr_len]
    split <;> simp
    omega
theorem mr_succ (n : Nat) (f : Nat → Value) (x : Value) (h : f n = x) : mr n f ++ [x] = mr (n + 1) f := by simp [mr, List.range_succ, h]

theorem Arr.mr {w : World} {g e n cap : Nat} {f : Nat → Value} (h : Arr w g e n cap (mr n f)) (j : Nat) (hj : j < n) : w.cell? ⟨g, j, none⟩ = some (f j) := by rw [h.cell j hj, mr_at _ _ _ hj]
theorem Arr.setMr {w : World} {g e n cap : Nat} {f : Nat → Value} (h : Arr w g e n cap (Ybulkekys.mr n f)) (j : Nat) (x : Value) : Arr (w.setCell ⟨g, j, none⟩ x) g e n cap (Ybulkekys.mr n (upd f j x)) := by
  rw [← mr_set]; exact h.set j x
theorem Arr.ty {w : World} {g e n cap : Nat} {xs : List Value} (h : Arr w g e n cap xs) : ∃ cur, w.heap[g]? = some (.cells cur e (0, 0)) := by
  rcases h.2 with ⟨h', _⟩ | ⟨g', cap', cur, h', _, hg, _⟩
  · simp at h'
  · simp only [Value.slice.injEq, Option.some.injEq, Addr.mk.injEq, and_true, true_and] at h'
    rw [h'.1]; exact ⟨cur, hg⟩
theorem row_ty {w : World} {e size n : Nat} {v : Value} {xs : List Value} (h : w.ownsRow 0 e size v n xs) {g : Nat} (hg : v.ownBlock = some g) : ∃ cur, w.heap[g]? = some (.cells cur e (0, 0)) := by
  rcases h.2 with ⟨h', _⟩ | ⟨g', cap', cur, h', _, hh, _⟩
  · rw [h'] at hg; cases hg
  · rw [h'] at hg
    simp only [Value.ownBlock, Option.some.injEq] at hg
    rw [← hg]; exact ⟨cur, hh⟩
theorem ty_ne {w : World} {g g' e e' : Nat} (h : ∃ cur, w.heap[g]? = some (.cells cur e (0, 0))) (h' : ∃ cur, w.heap[g']? = some (.cells cur e' (0, 0))) (hne : e ≠ e') : g ≠ g' := by
  intro he
  subst he
  obtain ⟨c, h⟩ := h
  obtain ⟨c', h'⟩ := h'
  rw [h] at h'
  simp only [Option.some.injEq, Obj.cells.injEq] at h'
  exact hne h'.2.1
theorem row_blk {w w' : World} {e size n : Nat} {v : Value} {xs : List Value} (h : w.ownsRow 0 e size v n xs) (hb : ∀ g, v.ownBlock = some g → w'.heap[g]? = w.heap[g]?) : w'.ownsRow 0 e size v n xs := by
  obtain ⟨h1, h2⟩ := h
  refine ⟨h1, ?_⟩
  rcases h2 with h' | ⟨g', cap', cur, h', hb0, hg, rest⟩
  · exact .inl h'
  · exact .inr ⟨g', cap', cur, h', hb0, by rw [hb g' (by rw [h']; rfl)]; exact hg, rest⟩
theorem row_lt {w : World} {e size n : Nat} {v : Value} {xs : List Value} (h : w.ownsRow 0 e size v n xs) {g : Nat} (hg : v.ownBlock = some g) : g < w.heap.size := (World.ownsRow.lt h g hg).2
theorem Box.ty {w : World} {b e : Nat} {vs : Array Value} (h : Box w b e vs) : ∃ cur, w.heap[b]? = some (.cells cur e (0, 0)) := ⟨vs, h⟩

/-! What is fixed. -/
structure Keep (F : Nat → Prop) (w w' : World) : Prop where
  os : w'.os = w.os
  tape : w'.tape = w.tape
  output : w'.output = w.output
  size : w.heap.size ≤ w'.heap.size
  block : ∀ k, F k → w'.heap[k]? = w.heap[k]?
theorem Keep.refl (F : Nat → Prop) (w : World) : Keep F w w := ⟨rfl, rfl, rfl, Nat.le_refl _, fun _ _ => rfl⟩
theorem Keep.trans {F : Nat → Prop} {w w' w'' : World} (h : Keep F w w') (h' : Keep F w' w'') : Keep F w w'' :=
  ⟨h'.os.trans h.os, h'.tape.trans h.tape, h'.output.trans h.output, Nat.le_trans h.size h'.size, fun k hk => (h'.block k hk).trans (h.block k hk)⟩
theorem Keep.set {F : Nat → Prop} {w w' : World} (h : Keep F w w') (b o : Nat) (u : Value) (hb : ¬ F b) : Keep F w (w'.setCell ⟨b, o, none⟩ u) :=
  ⟨h.os, h.tape, h.output, Nat.le_trans h.size (by simp), fun k hk => (Below.heap_setCell w' _ u k (fun e => hb (by have e' : k = b := e; rw [← e']; exact hk))).trans (h.block k hk)⟩
theorem Keep.alloc {F : Nat → Prop} {w w' : World} (h : Keep F w w') (hF : ∀ k, F k → k < w.heap.size) (o : Obj) : Keep F w (w'.alloc o) :=
  ⟨h.os, h.tape, h.output, Nat.le_trans h.size (by simp), fun k hk => (Below.heap_alloc w' o k (Nat.lt_of_lt_of_le (hF k hk) h.size)).trans (h.block k hk)⟩
theorem Keep.drew {F : Nat → Prop} {w w' : World} (h : Keep F w w') : Keep F w w'.drew := ⟨h.os, h.tape, h.output, h.size, h.block⟩
theorem Keep.grown {F : Nat → Prop} {w w' w'' : World} {row : Option Nat} (h : Keep F w w') (hF : ∀ k, F k → k < w.heap.size) (hg : w'.grownBy w'' row) (hr : ∀ k, row = some k → ¬ F k) : Keep F w w'' :=
  ⟨hg.os.trans h.os, hg.tape.trans h.tape, hg.output.trans h.output, Nat.le_trans h.size hg.size, fun k hk => (hg.block k (Nat.lt_of_lt_of_le (hF k hk) h.size) (fun e => hr k e.symm hk)).trans (h.block k hk)⟩
theorem Keep.lt {F : Nat → Prop} {w w' : World} (h : Keep F w w') (hF : ∀ k, F k → k < w.heap.size) : ∀ k, F k → k < w'.heap.size := fun k hk => Nat.lt_of_lt_of_le (hF k hk) h.size

/-! The detector in memory. -/
def lcells (l : List (Int × Int)) : List Value := l.flatMap fun p => [.int .i64 p.1, .int .i64 p.2]
theorem lcells_len (l : List (Int × Int)) : (lcells l).length = l.length * 2 := by
  induction l with
  | nil => rfl
  | cons a l ih => simp only [lcells, List.flatMap_cons, List.length_append, List.length_cons] at ih ⊢; simp at ih ⊢; omega
theorem lcells_app (l : List (Int × Int)) (p : Int × Int) : lcells (l ++ [p]) = lcells l ++ [.int .i64 p.1, .int .i64 p.2] := by simp [lcells]
def icells (l : List Int) : List Value := l.map (Value.int .i64)

structure Mem where
  vs : Array Value
  gO : Nat
  gE : Nat
  gB : Nat
  gI : Nat
  gA : Nat
  lB : Nat
  lI : Nat
  lA : Nat
  cB : Nat
  cI : Nat
  cA : Nat
  rowV : Nat → Value
  inV : Nat → Value
  atV : Nat → Value

structure DetX (F : Nat → Prop) (n : Nat) (O : Nat → List Nat) (E : Nat → Bool) (w : World) (bd : Nat) (s : DS) (m : Mem) : Prop where
  box : Box w bd 61 m.vs
  c7 : m.vs[7]? = some (.slice (some ⟨m.gO, 0, none⟩) n n)
  c10 : m.vs[10]? = some (.slice (some ⟨m.gE, 0, none⟩) n n)
  c15 : m.vs[15]? = some (.slice (some ⟨m.gB, 0, none⟩) m.lB m.cB)
  c16 : m.vs[16]? = some (.slice (some ⟨m.gI, 0, none⟩) m.lI m.cI)
  c17 : m.vs[17]? = some (.slice (some ⟨m.gA, 0, none⟩) m.lA m.cA)
  out : Arr w m.gO 33 n n (mr n m.rowV)
  row : ∀ i, i < n → w.ownsRow 0 3 1 (m.rowV i) (O i).length (nv .i64 (O i))
  en : Arr w m.gE 4 n n (mr n fun i => .bool (E i))
  bg : Arr w m.gB 4 m.lB m.cB (mr m.lB fun i => .bool (s.bg i))
  inn : Arr w m.gI 37 m.lI m.cI (mr m.lI m.inV)
  at_ : Arr w m.gA 33 m.lA m.cA (mr m.lA m.atV)
  inRow : ∀ i, i < m.lI → w.ownsRow 0 39 2 (m.inV i) (s.inn i).length (lcells (s.inn i))
  atRow : ∀ i, i < m.lA → w.ownsRow 0 3 1 (m.atV i) (s.at_ i).length (icells (s.at_ i))
  atNil : ∀ i, i < m.lA → s.at_ i = [] → m.atV i = .slice none 0 0
  offB : ∀ i, m.lB ≤ i → s.bg i = false
  offI : ∀ i, m.lI ≤ i → s.inn i = []
  offA : ∀ i, m.lA ≤ i → s.at_ i = []
  dis : ∀ i j g, i < m.lI → j < m.lI → (m.inV i).ownBlock = some g → (m.inV j).ownBlock = some g → i = j
  Fbd : ¬ F bd
  FB : ¬ F m.gB
  FI : ¬ F m.gI
  FA : ¬ F m.gA
  Fin : ∀ i g, i < m.lI → (m.inV i).ownBlock = some g → ¬ F g
  Fat : ∀ i g, i < m.lA → (m.atV i).ownBlock = some g → ¬ F g
  FO : F m.gO
  FE : F m.gE
  Frow : ∀ i g, i < n → (m.rowV i).ownBlock = some g → F g
  Flt : ∀ k, F k → k < w.heap.size

def Det (F : Nat → Prop) (n : Nat) (O : Nat → List Nat) (E : Nat → Bool) (R : Nat → Value) (w : World) (bd : Nat) (s : DS) : Prop := ∃ m, DetX F n O E w bd s m ∧ m.rowV = R ∧ m.lB = s.L ∧ m.lI = s.L ∧ m.lA = s.L

theorem ne_of_F {F : Nat → Prop} {a b : Nat} (ha : F a) (hb : ¬ F b) : a ≠ b := fun e => hb (by rw [← e]; exact ha)
theorem setI_same (vs : Array Value) (j : Nat) (x v : Value) (h : vs[j]? = some v) : (vs.setIfInBounds j x)[j]? = some x := by
  have := (Array.getElem?_eq_some_iff.1 h).1
  simp [this]
theorem setI_other (vs : Array Value) (j k : Nat) (x : Value) (h : j ≠ k) : (vs.setIfInBounds j x)[k]? = vs[k]? := by simp [h]

section
variable {F : Nat → Prop} {n : Nat} {O : Nat → List Nat} {E : Nat → Bool} {w w' : World} {bd : Nat} {s : DS} {m : Mem}
/-- The world moves on, no block of the detector turned. -/
theorem DetX.blk (h : DetX F n O E w bd s m) (hs : w.heap.size ≤ w'.heap.size) (hb : ∀ k, k < w.heap.size → w'.heap[k]? = w.heap[k]?) : DetX F n O E w' bd s m :=
  { h with
    box := h.box.blk (hb _ h.box.lt)
    out := h.out.blk (hb _ h.out.lt)
    row := fun i hi => row_blk (h.row i hi) (fun g hg => hb g (row_lt (h.row i hi) hg))
    en := h.en.blk (hb _ h.en.lt)
    bg := h.bg.blk (hb _ h.bg.lt)
    inn := h.inn.blk (hb _ h.inn.lt)
    at_ := h.at_.blk (hb _ h.at_.lt)
    inRow := fun i hi => row_blk (h.inRow i hi) (fun g hg => hb g (row_lt (h.inRow i hi) hg))
    atRow := fun i hi => row_blk (h.atRow i hi) (fun g hg => hb g (row_lt (h.atRow i hi) hg))
    Flt := fun k hk => Nat.lt_of_lt_of_le (h.Flt k hk) hs }
theorem DetX.drew (h : DetX F n O E w bd s m) : DetX F n O E w.drew bd s m := h.blk (Nat.le_refl _) (fun _ _ => rfl)
theorem DetX.alloc (h : DetX F n O E w bd s m) (o : Obj) : DetX F n O E (w.alloc o) bd s m := h.blk (by simp) (fun k hk => Below.heap_alloc w o k hk)
theorem DetX.cO (h : DetX F n O E w bd s m) : w.cell? ⟨bd, 7, none⟩ = some (.slice (some ⟨m.gO, 0, none⟩) n n) := (h.box.cell 7).trans h.c7
theorem DetX.cE (h : DetX F n O E w bd s m) : w.cell? ⟨bd, 10, none⟩ = some (.slice (some ⟨m.gE, 0, none⟩) n n) := (h.box.cell 10).trans h.c10
theorem DetX.cB (h : DetX F n O E w bd s m) : w.cell? ⟨bd, 15, none⟩ = some (.slice (some ⟨m.gB, 0, none⟩) m.lB m.cB) := (h.box.cell 15).trans h.c15
theorem DetX.cI (h : DetX F n O E w bd s m) : w.cell? ⟨bd, 16, none⟩ = some (.slice (some ⟨m.gI, 0, none⟩) m.lI m.cI) := (h.box.cell 16).trans h.c16
theorem DetX.cA (h : DetX F n O E w bd s m) : w.cell? ⟨bd, 17, none⟩ = some (.slice (some ⟨m.gA, 0, none⟩) m.lA m.cA) := (h.box.cell 17).trans h.c17
theorem DetX.nbB (h : DetX F n O E w bd s m) : bd ≠ m.gB := ty_ne h.box.ty h.bg.ty (by decide)
theorem DetX.nbI (h : DetX F n O E w bd s m) : bd ≠ m.gI := ty_ne h.box.ty h.inn.ty (by decide)
theorem DetX.nbA (h : DetX F n O E w bd s m) : bd ≠ m.gA := ty_ne h.box.ty h.at_.ty (by decide)
theorem DetX.nBI (h : DetX F n O E w bd s m) : m.gB ≠ m.gI := ty_ne h.bg.ty h.inn.ty (by decide)
theorem DetX.nBA (h : DetX F n O E w bd s m) : m.gB ≠ m.gA := ty_ne h.bg.ty h.at_.ty (by decide)
theorem DetX.nIA (h : DetX F n O E w bd s m) : m.gI ≠ m.gA := ty_ne h.inn.ty h.at_.ty (by decide)

/-- A new block, or the old one. -/
theorem new_ne {g' g k : Nat} (hn : g' = g ∨ (w.heap.size ≤ g' ∧ g' < w'.heap.size)) (hk : k < w.heap.size) (hne : k ≠ g) : k ≠ g' := by
  rcases hn with hn | hn <;> omega
theorem new_nF {g' g : Nat} (hn : g' = g ∨ (w.heap.size ≤ g' ∧ g' < w'.heap.size)) (hF : ∀ k, F k → k < w.heap.size) (hg : ¬ F g) : ¬ F g' := by
  rcases hn with hn | hn
  · rw [hn]; exact hg
  · intro h; have := hF _ h; omega

theorem DetX.pushB (h : DetX F n O E w bd s m) {g' c' : Nat} (ha : Arr w' g' 4 (m.lB + 1) c' (mr m.lB (fun i => .bool (s.bg i)) ++ [.bool false])) (hg : w.grownBy w' (some m.gB)) (hn : g' = m.gB ∨ (w.heap.size ≤ g' ∧ g' < w'.heap.size)) :
    DetX F n O E (w'.setCell ⟨bd, 15, none⟩ (.slice (some ⟨g', 0, none⟩) (m.lB + 1) c')) bd s { m with vs := m.vs.setIfInBounds 15 (.slice (some ⟨g', 0, none⟩) (m.lB + 1) c'), gB := g', cB := c', lB := m.lB + 1 } := by
  have hbl := h.box.lt
  have hb : ∀ k, k < w.heap.size → k ≠ m.gB → k ≠ bd → (w'.setCell ⟨bd, 15, none⟩ (.slice (some ⟨g', 0, none⟩) (m.lB + 1) c')).heap[k]? = w.heap[k]? := fun k hk h1 h2 =>
    (Below.heap_setCell w' _ _ k h2).trans (hg.block k hk (fun e => h1 (Option.some.inj e)))
  have hbox : Box w' bd 61 m.vs := h.box.blk (hg.block bd hbl (fun e => h.nbB (Option.some.inj e)))
  have hsz : w.heap.size ≤ (w'.setCell ⟨bd, 15, none⟩ (.slice (some ⟨g', 0, none⟩) (m.lB + 1) c')).heap.size := by simpa using hg.size
  refine { h with
    box := hbox.set 15 _
    c7 := (setI_other _ _ _ _ (by decide)).trans h.c7
    c10 := (setI_other _ _ _ _ (by decide)).trans h.c10
    c15 := setI_same _ _ _ _ h.c15
    c16 := (setI_other _ _ _ _ (by decide)).trans h.c16
    c17 := (setI_other _ _ _ _ (by decide)).trans h.c17
    out := h.out.blk (hb _ h.out.lt (ne_of_F h.FO h.FB) (ne_of_F h.FO h.Fbd))
    row := fun i hi => row_blk (h.row i hi) (fun g hg => hb g (row_lt (h.row i hi) hg) (ne_of_F (h.Frow i g hi hg) h.FB) (ne_of_F (h.Frow i g hi hg) h.Fbd))
    en := h.en.blk (hb _ h.en.lt (ne_of_F h.FE h.FB) (ne_of_F h.FE h.Fbd))
    bg := ?_
    inn := h.inn.blk (hb _ h.inn.lt h.nBI.symm h.nbI.symm)
    at_ := h.at_.blk (hb _ h.at_.lt h.nBA.symm h.nbA.symm)
    inRow := fun i hi => row_blk (h.inRow i hi) (fun g hg => hb g (row_lt (h.inRow i hi) hg) (ty_ne (row_ty (h.inRow i hi) hg) h.bg.ty (by decide)) (ty_ne (row_ty (h.inRow i hi) hg) h.box.ty (by decide)))
    atRow := fun i hi => row_blk (h.atRow i hi) (fun g hg => hb g (row_lt (h.atRow i hi) hg) (ty_ne (row_ty (h.atRow i hi) hg) h.bg.ty (by decide)) (ty_ne (row_ty (h.atRow i hi) hg) h.box.ty (by decide)))
    offB := fun i hi => h.offB i (by exact Nat.le_of_succ_le hi)
    FB := new_nF hn h.Flt h.FB
    Flt := fun k hk => Nat.lt_of_lt_of_le (h.Flt k hk) hsz }
  show Arr _ g' 4 (m.lB + 1) c' (mr (m.lB + 1) _)
  rw [← mr_succ _ _ (.bool false) (by rw [h.offB m.lB (Nat.le_refl _)])]
  exact ha.other _ _ _ (new_ne hn hbl h.nbB).symm

theorem DetX.pushI (h : DetX F n O E w bd s m) {g' c' : Nat} (ha : Arr w' g' 37 (m.lI + 1) c' (mr m.lI m.inV ++ [.slice none 0 0])) (hg : w.grownBy w' (some m.gI)) (hn : g' = m.gI ∨ (w.heap.size ≤ g' ∧ g' < w'.heap.size)) :
    DetX F n O E (w'.setCell ⟨bd, 16, none⟩ (.slice (some ⟨g', 0, none⟩) (m.lI + 1) c')) bd s { m with vs := m.vs.setIfInBounds 16 (.slice (some ⟨g', 0, none⟩) (m.lI + 1) c'), gI := g', cI := c', lI := m.lI + 1, inV := upd m.inV m.lI (.slice none 0 0) } := by
  have hbl := h.box.lt
  have hb : ∀ k, k < w.heap.size → k ≠ m.gI → k ≠ bd → (w'.setCell ⟨bd, 16, none⟩ (.slice (some ⟨g', 0, none⟩) (m.lI + 1) c')).heap[k]? = w.heap[k]? := fun k hk h1 h2 =>
    (Below.heap_setCell w' _ _ k h2).trans (hg.block k hk (fun e => h1 (Option.some.inj e)))
  have hbox : Box w' bd 61 m.vs := h.box.blk (hg.block bd hbl (fun e => h.nbI (Option.some.inj e)))
  have hsz : w.heap.size ≤ (w'.setCell ⟨bd, 16, none⟩ (.slice (some ⟨g', 0, none⟩) (m.lI + 1) c')).heap.size := by simpa using hg.size
  have hv : ∀ i, i < m.lI + 1 → (i = m.lI ∧ upd m.inV m.lI (.slice none 0 0) i = .slice none 0 0) ∨ (i < m.lI ∧ upd m.inV m.lI (.slice none 0 0) i = m.inV i) := fun i hi => by
    by_cases e : i = m.lI
    · exact .inl ⟨e, by rw [e, upd_same]⟩
    · exact .inr ⟨by omega, upd_other _ _ _ _ e⟩
  refine { h with
    box := hbox.set 16 _
    c7 := (setI_other _ _ _ _ (by decide)).trans h.c7
    c10 := (setI_other _ _ _ _ (by decide)).trans h.c10
    c15 := (setI_other _ _ _ _ (by decide)).trans h.c15
    c16 := setI_same _ _ _ _ h.c16
    c17 := (setI_other _ _ _ _ (by decide)).trans h.c17
    out := h.out.blk (hb _ h.out.lt (ne_of_F h.FO h.FI) (ne_of_F h.FO h.Fbd))
    row := fun i hi => row_blk (h.row i hi) (fun g hg => hb g (row_lt (h.row i hi) hg) (ne_of_F (h.Frow i g hi hg) h.FI) (ne_of_F (h.Frow i g hi hg) h.Fbd))
    en := h.en.blk (hb _ h.en.lt (ne_of_F h.FE h.FI) (ne_of_F h.FE h.Fbd))
    bg := h.bg.blk (hb _ h.bg.lt h.nBI h.nbB.symm)
    inn := ?_
    at_ := h.at_.blk (hb _ h.at_.lt h.nIA.symm h.nbA.symm)
    inRow := fun i hi => ?_
    atRow := fun i hi => row_blk (h.atRow i hi) (fun g hg => hb g (row_lt (h.atRow i hi) hg) (ty_ne (row_ty (h.atRow i hi) hg) h.inn.ty (by decide)) (ty_ne (row_ty (h.atRow i hi) hg) h.box.ty (by decide)))
    offI := fun i hi => h.offI i (by exact Nat.le_of_succ_le hi)
    dis := fun i j g hi hj h1 h2 => ?_
    FI := new_nF hn h.Flt h.FI
    Fin := fun i g hi h1 => ?_
    Flt := fun k hk => Nat.lt_of_lt_of_le (h.Flt k hk) hsz }
  · show Arr _ g' 37 (m.lI + 1) c' (mr (m.lI + 1) _)
    rw [← mr_succ _ _ (.slice none 0 0) (upd_same _ _ _), mr_congr m.lI _ m.inV (fun j hj => upd_other _ _ _ _ (by omega))]
    exact ha.other _ _ _ (new_ne hn hbl h.nbI).symm
  · rcases hv i hi with ⟨e, h1⟩ | ⟨e, h1⟩
    · show World.ownsRow _ 0 39 2 (upd m.inV m.lI (.slice none 0 0) i) _ _
      rw [h1, h.offI i (by omega)]
      exact ⟨rfl, .inl ⟨rfl, rfl⟩⟩
    · show World.ownsRow _ 0 39 2 (upd m.inV m.lI (.slice none 0 0) i) _ _
      rw [h1]
      exact row_blk (h.inRow i e) (fun g hg => hb g (row_lt (h.inRow i e) hg) (ty_ne (row_ty (h.inRow i e) hg) h.inn.ty (by decide)) (ty_ne (row_ty (h.inRow i e) hg) h.box.ty (by decide)))
  · have h1' : (upd m.inV m.lI (.slice none 0 0) i).ownBlock = some g := h1
    have h2' : (upd m.inV m.lI (.slice none 0 0) j).ownBlock = some g := h2
    rcases hv i hi with ⟨e, h3⟩ | ⟨e, h3⟩
    · rw [h3] at h1'; cases h1'
    · rcases hv j hj with ⟨e', h4⟩ | ⟨e', h4⟩
      · rw [h4] at h2'; cases h2'
      · rw [h3] at h1'
        rw [h4] at h2'
        exact h.dis i j g e e' h1' h2'
  · have h1' : (upd m.inV m.lI (.slice none 0 0) i).ownBlock = some g := h1
    rcases hv i hi with ⟨e, h3⟩ | ⟨e, h3⟩
    · rw [h3] at h1'; cases h1'
    · rw [h3] at h1'
      exact h.Fin i g e h1'

theorem DetX.pushA (h : DetX F n O E w bd s m) {g' c' : Nat} (ha : Arr w' g' 33 (m.lA + 1) c' (mr m.lA m.atV ++ [.slice none 0 0])) (hg : w.grownBy w' (some m.gA)) (hn : g' = m.gA ∨ (w.heap.size ≤ g' ∧ g' < w'.heap.size)) :
    DetX F n O E (w'.setCell ⟨bd, 17, none⟩ (.slice (some ⟨g', 0, none⟩) (m.lA + 1) c')) bd s { m with vs := m.vs.setIfInBounds 17 (.slice (some ⟨g', 0, none⟩) (m.lA + 1) c'), gA := g', cA := c', lA := m.lA + 1, atV := upd m.atV m.lA (.slice none 0 0) } := by
  have hbl := h.box.lt
  have hb : ∀ k, k < w.heap.size → k ≠ m.gA → k ≠ bd → (w'.setCell ⟨bd, 17, none⟩ (.slice (some ⟨g', 0, none⟩) (m.lA + 1) c')).heap[k]? = w.heap[k]? := fun k hk h1 h2 =>
    (Below.heap_setCell w' _ _ k h2).trans (hg.block k hk (fun e => h1 (Option.some.inj e)))
  have hbox : Box w' bd 61 m.vs := h.box.blk (hg.block bd hbl (fun e => h.nbA (Option.some.inj e)))
  have hsz : w.heap.size ≤ (w'.setCell ⟨bd, 17, none⟩ (.slice (some ⟨g', 0, none⟩) (m.lA + 1) c')).heap.size := by simpa using hg.size
  have hv : ∀ i, i < m.lA + 1 → (i = m.lA ∧ upd m.atV m.lA (.slice none 0 0) i = .slice none 0 0) ∨ (i < m.lA ∧ upd m.atV m.lA (.slice none 0 0) i = m.atV i) := fun i hi => by
    by_cases e : i = m.lA
    · exact .inl ⟨e, by rw [e, upd_same]⟩
    · exact .inr ⟨by omega, upd_other _ _ _ _ e⟩
  refine { h with
    box := hbox.set 17 _
    c7 := (setI_other _ _ _ _ (by decide)).trans h.c7
    c10 := (setI_other _ _ _ _ (by decide)).trans h.c10
    c15 := (setI_other _ _ _ _ (by decide)).trans h.c15
    c16 := (setI_other _ _ _ _ (by decide)).trans h.c16
    c17 := setI_same _ _ _ _ h.c17
    out := h.out.blk (hb _ h.out.lt (ne_of_F h.FO h.FA) (ne_of_F h.FO h.Fbd))
    row := fun i hi => row_blk (h.row i hi) (fun g hg => hb g (row_lt (h.row i hi) hg) (ne_of_F (h.Frow i g hi hg) h.FA) (ne_of_F (h.Frow i g hi hg) h.Fbd))
    en := h.en.blk (hb _ h.en.lt (ne_of_F h.FE h.FA) (ne_of_F h.FE h.Fbd))
    bg := h.bg.blk (hb _ h.bg.lt h.nBA h.nbB.symm)
    inn := h.inn.blk (hb _ h.inn.lt h.nIA h.nbI.symm)
    at_ := ?_
    inRow := fun i hi => row_blk (h.inRow i hi) (fun g hg => hb g (row_lt (h.inRow i hi) hg) (ty_ne (row_ty (h.inRow i hi) hg) h.at_.ty (by decide)) (ty_ne (row_ty (h.inRow i hi) hg) h.box.ty (by decide)))
    atRow := fun i hi => ?_
    atNil := fun i hi hi0 => ?_
    offA := fun i hi => h.offA i (by exact Nat.le_of_succ_le hi)
    FA := new_nF hn h.Flt h.FA
    Fat := fun i g hi h1 => ?_
    Flt := fun k hk => Nat.lt_of_lt_of_le (h.Flt k hk) hsz }
  · show Arr _ g' 33 (m.lA + 1) c' (mr (m.lA + 1) _)
    rw [← mr_succ _ _ (.slice none 0 0) (upd_same _ _ _), mr_congr m.lA _ m.atV (fun j hj => upd_other _ _ _ _ (by omega))]
    exact ha.other _ _ _ (new_ne hn hbl h.nbA).symm
  · rcases hv i hi with ⟨e, h1⟩ | ⟨e, h1⟩
    · show World.ownsRow _ 0 3 1 (upd m.atV m.lA (.slice none 0 0) i) _ _
      rw [h1, h.offA i (by omega)]
      exact ⟨rfl, .inl ⟨rfl, rfl⟩⟩
    · show World.ownsRow _ 0 3 1 (upd m.atV m.lA (.slice none 0 0) i) _ _
      rw [h1]
      exact row_blk (h.atRow i e) (fun g hg => hb g (row_lt (h.atRow i e) hg) (ty_ne (row_ty (h.atRow i e) hg) h.at_.ty (by decide)) (ty_ne (row_ty (h.atRow i e) hg) h.box.ty (by decide)))
  · show upd m.atV m.lA (.slice none 0 0) i = _
    rcases hv i hi with ⟨e, h1⟩ | ⟨e, h1⟩
    · exact h1
    · rw [h1]; exact h.atNil i e hi0
  · have h1' : (upd m.atV m.lA (.slice none 0 0) i).ownBlock = some g := h1
    rcases hv i hi with ⟨e, h3⟩ | ⟨e, h3⟩
    · rw [h3] at h1'; cases h1'
    · rw [h3] at h1'
      exact h.Fat i g e h1'

/-- 'd.belowGeneral[v] = true'. -/
theorem DetX.setB (h : DetX F n O E w bd s m) (v : Nat) (hv : v < m.lB) (L : Nat) : DetX F n O E (w.setCell ⟨m.gB, v, none⟩ (.bool true)) bd { s with bg := upd s.bg v true, L := L } m := by
  have hb : ∀ k, k ≠ m.gB → (w.setCell ⟨m.gB, v, none⟩ (.bool true)).heap[k]? = w.heap[k]? := fun k h1 => Below.heap_setCell w _ _ k h1
  refine { h with
    box := h.box.blk (hb _ h.nbB)
    out := h.out.blk (hb _ (ne_of_F h.FO h.FB))
    row := fun i hi => row_blk (h.row i hi) (fun g hg => hb g (ne_of_F (h.Frow i g hi hg) h.FB))
    en := h.en.blk (hb _ (ne_of_F h.FE h.FB))
    bg := ?_
    inn := h.inn.blk (hb _ h.nBI.symm)
    at_ := h.at_.blk (hb _ h.nBA.symm)
    inRow := fun i hi => row_blk (h.inRow i hi) (fun g hg => hb g (ty_ne (row_ty (h.inRow i hi) hg) h.bg.ty (by decide)))
    atRow := fun i hi => row_blk (h.atRow i hi) (fun g hg => hb g (ty_ne (row_ty (h.atRow i hi) hg) h.bg.ty (by decide)))
    offB := fun i hi => ?_
    Flt := fun k hk => by simpa using h.Flt k hk }
  · have := h.bg.setMr v (.bool true)
    rw [mr_congr m.lB _ (fun i => .bool (upd s.bg v true i)) (fun j _ => by
      by_cases e : j = v
      · subst e; rw [upd_same, upd_same]
      · rw [upd_other _ _ _ _ e, upd_other _ _ _ _ e])] at this
    exact this
  · show upd s.bg v true i = false
    rw [upd_other _ _ _ _ (by omega)]
    exact h.offB i hi
theorem DetX.relen (h : DetX F n O E w bd s m) (L : Nat) : DetX F n O E w bd { s with L := L } m := { h with }

/-- 'd.in[x] = append(d.in[x], link{a, b})'. -/
theorem DetX.linkIn (h : DetX F n O E w bd s m) {x : Nat} (hx : x < m.lI) {g' c' : Nat} {a b : Int}
    (ha : w'.ownsRow 0 39 2 (.slice (some ⟨g', 0, none⟩) ((s.inn x).length + 1) c') ((s.inn x).length + 1) (lcells (s.inn x) ++ [.int .i64 a, .int .i64 b]))
    (hg : w.grownBy w' (m.inV x).ownBlock) (hn : (m.inV x).ownBlock = some g' ∨ w.heap.size ≤ g') :
    DetX F n O E (w'.setCell ⟨m.gI, x, none⟩ (.slice (some ⟨g', 0, none⟩) ((s.inn x).length + 1) c')) bd { s with inn := upd s.inn x (s.inn x ++ [(a, b)]) } { m with inV := upd m.inV x (.slice (some ⟨g', 0, none⟩) ((s.inn x).length + 1) c') } := by
  have hb : ∀ k, k < w.heap.size → (∀ g, (m.inV x).ownBlock = some g → k ≠ g) → k ≠ m.gI → (w'.setCell ⟨m.gI, x, none⟩ (.slice (some ⟨g', 0, none⟩) ((s.inn x).length + 1) c')).heap[k]? = w.heap[k]? := fun k hk h1 h2 =>
    (Below.heap_setCell w' _ _ k h2).trans (hg.block k hk (fun e => h1 k e.symm rfl))
  have hsz : w.heap.size ≤ (w'.setCell ⟨m.gI, x, none⟩ (.slice (some ⟨g', 0, none⟩) ((s.inn x).length + 1) c')).heap.size := by simpa using hg.size
  have hxr := h.inRow x hx
  have hgI : ∀ g, (m.inV x).ownBlock = some g → m.gI ≠ g := fun g hg => ty_ne h.inn.ty (row_ty hxr hg) (by decide)
  have hg'I : m.gI ≠ g' := by
    rcases hn with hn | hn
    · exact hgI g' hn
    · have := h.inn.lt; omega
  refine { h with
    box := h.box.blk (hb _ h.box.lt (fun g hg => ty_ne h.box.ty (row_ty hxr hg) (by decide)) h.nbI)
    out := h.out.blk (hb _ h.out.lt (fun g hg => ne_of_F h.FO (h.Fin x g hx hg)) (ne_of_F h.FO h.FI))
    row := fun i hi => row_blk (h.row i hi) (fun k hk => hb k (row_lt (h.row i hi) hk) (fun g hg => ne_of_F (h.Frow i k hi hk) (h.Fin x g hx hg)) (ne_of_F (h.Frow i k hi hk) h.FI))
    en := h.en.blk (hb _ h.en.lt (fun g hg => ne_of_F h.FE (h.Fin x g hx hg)) (ne_of_F h.FE h.FI))
    bg := h.bg.blk (hb _ h.bg.lt (fun g hg => ty_ne h.bg.ty (row_ty hxr hg) (by decide)) h.nBI)
    inn := (h.inn.blk (hg.block _ h.inn.lt (fun e => hgI _ e.symm rfl))).setMr x _
    at_ := h.at_.blk (hb _ h.at_.lt (fun g hg => ty_ne h.at_.ty (row_ty hxr hg) (by decide)) h.nIA.symm)
    inRow := fun i hi => ?_
    atRow := fun i hi => row_blk (h.atRow i hi) (fun k hk => hb k (row_lt (h.atRow i hi) hk) (fun g hg => ty_ne (row_ty (h.atRow i hi) hk) (row_ty hxr hg) (by decide)) (ty_ne (row_ty (h.atRow i hi) hk) h.inn.ty (by decide)))
    offI := fun i hi => ?_
    dis := fun i j k hi hj h1 h2 => ?_
    Fin := fun i k hi h1 => ?_
    Flt := fun k hk => Nat.lt_of_lt_of_le (h.Flt k hk) hsz }
  · show World.ownsRow _ 0 39 2 (upd m.inV x _ i) (upd s.inn x _ i).length (lcells (upd s.inn x _ i))
    by_cases e : i = x
    · subst e
      rw [upd_same, upd_same, lcells_app, List.length_append]
      exact row_blk ha (fun k hk => by
        simp only [Value.ownBlock, Option.some.injEq] at hk
        exact Below.heap_setCell w' _ _ k (fun e => hg'I (by rw [hk]; exact e.symm)))
    · rw [upd_other _ _ _ _ e, upd_other _ _ _ _ e]
      exact row_blk (h.inRow i hi) (fun k hk => hb k (row_lt (h.inRow i hi) hk) (fun g hg e' => e (h.dis i x g hi hx (by rw [← e']; exact hk) hg)) (ty_ne (row_ty (h.inRow i hi) hk) h.inn.ty (by decide)))
  · show upd s.inn x _ i = []
    have hi' : m.lI ≤ i := hi
    rw [upd_other _ _ _ _ (by omega)]
    exact h.offI i hi
  · have h1' : (upd m.inV x (.slice (some ⟨g', 0, none⟩) ((s.inn x).length + 1) c') i).ownBlock = some k := h1
    have h2' : (upd m.inV x (.slice (some ⟨g', 0, none⟩) ((s.inn x).length + 1) c') j).ownBlock = some k := h2
    by_cases e : i = x
    · by_cases e' : j = x
      · rw [e, e']
      · rw [e, upd_same] at h1'
        rw [upd_other _ _ _ _ e'] at h2'
        simp only [Value.ownBlock, Option.some.injEq] at h1'
        rcases hn with hn | hn
        · exact e.trans (h.dis x j k hx hj (by rw [hn, h1']) h2')
        · have := row_lt (h.inRow j hj) h2'; omega
    · rw [upd_other _ _ _ _ e] at h1'
      by_cases e' : j = x
      · rw [e', upd_same] at h2'
        simp only [Value.ownBlock, Option.some.injEq] at h2'
        rcases hn with hn | hn
        · exact (h.dis i x k hi hx h1' (by rw [hn, h2'])).trans e'.symm
        · have := row_lt (h.inRow i hi) h1'; omega
      · rw [upd_other _ _ _ _ e'] at h2'
        exact h.dis i j k hi hj h1' h2'
  · have h1' : (upd m.inV x (.slice (some ⟨g', 0, none⟩) ((s.inn x).length + 1) c') i).ownBlock = some k := h1
    by_cases e : i = x
    · rw [e, upd_same] at h1'
      simp only [Value.ownBlock, Option.some.injEq] at h1'
      rcases hn with hn | hn
      · exact h.Fin x k hx (by rw [hn, h1'])
      · intro hF; have := h.Flt k hF; omega
    · rw [upd_other _ _ _ _ e] at h1'
      exact h.Fin i k hi h1'

/-- 'd.outAt[v] = at'. -/
theorem DetX.setA (h : DetX F n O E w bd s m) {v : Nat} (hv : v < m.lA) {u : Value} {l : List Int} (hu : w.ownsRow 0 3 1 u l.length (icells l)) (huF : ∀ g, u.ownBlock = some g → ¬ F g) (hu0 : l = [] → u = .slice none 0 0) :
    DetX F n O E (w.setCell ⟨m.gA, v, none⟩ u) bd { s with at_ := upd s.at_ v l } { m with atV := upd m.atV v u } := by
  have hb : ∀ k, k ≠ m.gA → (w.setCell ⟨m.gA, v, none⟩ u).heap[k]? = w.heap[k]? := fun k h1 => Below.heap_setCell w _ _ k h1
  refine { h with
    box := h.box.blk (hb _ h.nbA)
    out := h.out.blk (hb _ (ne_of_F h.FO h.FA))
    row := fun i hi => row_blk (h.row i hi) (fun g hg => hb g (ne_of_F (h.Frow i g hi hg) h.FA))
    en := h.en.blk (hb _ (ne_of_F h.FE h.FA))
    bg := h.bg.blk (hb _ h.nBA)
    inn := h.inn.blk (hb _ h.nIA)
    at_ := h.at_.setMr v u
    inRow := fun i hi => row_blk (h.inRow i hi) (fun g hg => hb g (ty_ne (row_ty (h.inRow i hi) hg) h.at_.ty (by decide)))
    atRow := fun i hi => ?_
    atNil := fun i hi h0 => ?_
    offA := fun i hi => ?_
    Fat := fun i g hi hg => ?_
    Flt := fun k hk => by simpa using h.Flt k hk }
  · show World.ownsRow _ 0 3 1 (upd m.atV v u i) (upd s.at_ v l i).length (icells (upd s.at_ v l i))
    by_cases e : i = v
    · subst e
      rw [upd_same, upd_same]
      exact row_blk hu (fun g hg => hb g (ty_ne (row_ty hu hg) h.at_.ty (by decide)))
    · rw [upd_other _ _ _ _ e, upd_other _ _ _ _ e]
      exact row_blk (h.atRow i hi) (fun g hg => hb g (ty_ne (row_ty (h.atRow i hi) hg) h.at_.ty (by decide)))
  · show upd m.atV v u i = _
    have h0' : upd s.at_ v l i = [] := h0
    by_cases e : i = v
    · subst e
      rw [upd_same] at h0' ⊢
      exact hu0 h0'
    · rw [upd_other _ _ _ _ e] at h0' ⊢
      exact h.atNil i hi h0'
  · show upd s.at_ v l i = []
    have hi' : m.lA ≤ i := hi
    rw [upd_other _ _ _ _ (by omega)]
    exact h.offA i hi
  · have hg' : (upd m.atV v u i).ownBlock = some g := hg
    by_cases e : i = v
    · subst e
      rw [upd_same] at hg'
      exact huF g hg'
    · rw [upd_other _ _ _ _ e] at hg'
      exact h.Fat i g hi hg'

/-- A row grows that is none of the detector's. -/
theorem DetX.far (h : DetX F n O E w bd s m) {row : Option Nat} (hg : w.grownBy w' row) (hr : ∀ g, row = some g → ¬ F g ∧ (∃ cur, w.heap[g]? = some (.cells cur 3 (0, 0))) ∧ ∀ i, i < m.lA → (m.atV i).ownBlock ≠ some g) : DetX F n O E w' bd s m := by
  have hb : ∀ k, k < w.heap.size → (∀ g, row = some g → k ≠ g) → w'.heap[k]? = w.heap[k]? := fun k hk h1 => hg.block k hk (fun e => h1 k e.symm rfl)
  exact { h with
    box := h.box.blk (hb _ h.box.lt (fun g hg => ty_ne h.box.ty (hr g hg).2.1 (by decide)))
    out := h.out.blk (hb _ h.out.lt (fun g hg => ty_ne h.out.ty (hr g hg).2.1 (by decide)))
    row := fun i hi => row_blk (h.row i hi) (fun k hk => hb k (row_lt (h.row i hi) hk) (fun g hg => ne_of_F (h.Frow i k hi hk) (hr g hg).1))
    en := h.en.blk (hb _ h.en.lt (fun g hg => ty_ne h.en.ty (hr g hg).2.1 (by decide)))
    bg := h.bg.blk (hb _ h.bg.lt (fun g hg => ty_ne h.bg.ty (hr g hg).2.1 (by decide)))
    inn := h.inn.blk (hb _ h.inn.lt (fun g hg => ty_ne h.inn.ty (hr g hg).2.1 (by decide)))
    at_ := h.at_.blk (hb _ h.at_.lt (fun g hg => ty_ne h.at_.ty (hr g hg).2.1 (by decide)))
    inRow := fun i hi => row_blk (h.inRow i hi) (fun k hk => hb k (row_lt (h.inRow i hi) hk) (fun g hg => ty_ne (row_ty (h.inRow i hi) hk) (hr g hg).2.1 (by decide)))
    atRow := fun i hi => row_blk (h.atRow i hi) (fun k hk => hb k (row_lt (h.atRow i hi) hk) (fun g hg e => (hr g hg).2.2 i hi (by rw [← e]; exact hk)))
    Flt := fun k hk => Nat.lt_of_lt_of_le (h.Flt k hk) hg.size }
end

/-- One block more is fixed. -/
def Fu (F : Nat → Prop) (row : Option Nat) : Nat → Prop := fun k => F k ∨ row = some k
/-- The detector beside a row of ints that is none of its own. -/
def DetB (F : Nat → Prop) (n : Nat) (O : Nat → List Nat) (E : Nat → Bool) (R : Nat → Value) (w : World) (bd : Nat) (s : DS) (row : Option Nat) : Prop :=
  ∃ m, DetX F n O E w bd s m ∧ m.rowV = R ∧ m.lB = s.L ∧ m.lI = s.L ∧ m.lA = s.L ∧ ∀ i g, i < m.lA → row = some g → (m.atV i).ownBlock ≠ some g
/-- The row's block is one of ints, and not fixed. -/
def RowOk (F : Nat → Prop) (w : World) (row : Option Nat) : Prop := ∀ g, row = some g → ¬ F g ∧ ∃ cur, w.heap[g]? = some (.cells cur 3 (0, 0))

section
variable {F : Nat → Prop} {n : Nat} {O : Nat → List Nat} {E : Nat → Bool} {R : Nat → Value} {w w' : World} {bd : Nat} {s : DS} {row row' : Option Nat}
theorem DetB.det (h : DetB F n O E R w bd s row) : Det F n O E R w bd s := by
  obtain ⟨m, h1, h2, h3, h4, h5, _⟩ := h
  exact ⟨m, h1, h2, h3, h4, h5⟩
theorem Det.free (h : Det F n O E R w bd s) : DetB F n O E R w bd s none := by
  obtain ⟨m, h1, h2, h3, h4, h5⟩ := h
  exact ⟨m, h1, h2, h3, h4, h5, fun _ _ _ e => by cases e⟩
theorem DetB.Flt (h : DetB F n O E R w bd s row) : ∀ k, F k → k < w.heap.size := by obtain ⟨m, h1, _⟩ := h; exact h1.Flt
theorem ty_lt {g e : Nat} (h : ∃ cur, w.heap[g]? = some (.cells cur e (0, 0))) : g < w.heap.size := by
  obtain ⟨c, h⟩ := h
  exact (Array.getElem?_eq_some_iff.1 h).1
/-- Into the greater set. -/
theorem DetB.up (h : DetB F n O E R w bd s row) (hr : RowOk F w row) : Det (Fu F row) n O E R w bd s := by
  obtain ⟨m, h1, h2, h3, h4, h5, h6⟩ := h
  have hne : ∀ {k e : Nat}, ¬ F k → (∃ cur, w.heap[k]? = some (.cells cur e (0, 0))) → e ≠ 3 → ¬ Fu F row k := fun {k e} hF ht he hu => by
    rcases hu with hu | hu
    · exact hF hu
    · exact ty_ne ht (hr k hu).2 he rfl
  refine ⟨m, { h1 with
    Fbd := hne h1.Fbd h1.box.ty (by decide)
    FB := hne h1.FB h1.bg.ty (by decide)
    FI := hne h1.FI h1.inn.ty (by decide)
    FA := hne h1.FA h1.at_.ty (by decide)
    Fin := fun i g hi hg => hne (h1.Fin i g hi hg) (row_ty (h1.inRow i hi) hg) (by decide)
    Fat := fun i g hi hg hu => ?_
    FO := .inl h1.FO
    FE := .inl h1.FE
    Frow := fun i g hi hg => .inl (h1.Frow i g hi hg)
    Flt := fun k hk => ?_ }, h2, h3, h4, h5⟩
  · rcases hu with hu | hu
    · exact h1.Fat i g hi hg hu
    · exact h6 i g hi hu hg
  · rcases hk with hk | hk
    · exact h1.Flt k hk
    · exact ty_lt (hr k hk).2
/-- And back. -/
theorem Det.down (h : Det (Fu F row) n O E R w bd s) (hr : RowOk F w row) (hR : ∀ i g, i < n → (R i).ownBlock = some g → F g) : DetB F n O E R w bd s row := by
  obtain ⟨m, h1, h2, h3, h4, h5⟩ := h
  have hbk : ∀ {k e : Nat}, Fu F row k → (∃ cur, w.heap[k]? = some (.cells cur e (0, 0))) → e ≠ 3 → F k := fun {k e} hu ht he => by
    rcases hu with hu | hu
    · exact hu
    · exact absurd rfl (ty_ne ht (hr k hu).2 he)
  refine ⟨m, { h1 with
    Fbd := fun hF => h1.Fbd (.inl hF)
    FB := fun hF => h1.FB (.inl hF)
    FI := fun hF => h1.FI (.inl hF)
    FA := fun hF => h1.FA (.inl hF)
    Fin := fun i g hi hg hF => h1.Fin i g hi hg (.inl hF)
    Fat := fun i g hi hg hF => h1.Fat i g hi hg (.inl hF)
    FO := hbk h1.FO h1.out.ty (by decide)
    FE := hbk h1.FE h1.en.ty (by decide)
    Frow := fun i g hi hg => hR i g hi (by rw [← h2]; exact hg)
    Flt := fun k hk => h1.Flt k (.inl hk) }, h2, h3, h4, h5, fun i g hi e hg => h1.Fat i g hi hg (.inr e)⟩
/-- The row grows. -/
theorem DetB.grow (h : DetB F n O E R w bd s row) (hr : RowOk F w row) (hg : w.grownBy w' row) (hn : row' = row ∨ ∃ g', row' = some g' ∧ w.heap.size ≤ g') : DetB F n O E R w' bd s row' := by
  obtain ⟨m, h1, h2, h3, h4, h5, h6⟩ := h
  refine ⟨m, h1.far hg (fun g e => ⟨(hr g e).1, (hr g e).2, fun i hi => h6 i g hi e⟩), h2, h3, h4, h5, fun i g hi e hb => ?_⟩
  rcases hn with hn | ⟨g', hn, hlt⟩
  · exact h6 i g hi (by rw [← hn]; exact e) hb
  · rw [hn] at e
    have := row_lt (h1.atRow i hi) hb
    cases e
    omega
theorem RowOk.keep (hr : RowOk F w row) (hk : Keep (Fu F row) w w') : RowOk F w' row := fun g e => ⟨(hr g e).1, by rw [hk.block g (.inr e)]; exact (hr g e).2⟩
theorem Keep.sub (hk : Keep (Fu F row) w w') : Keep F w w' := ⟨hk.os, hk.tape, hk.output, hk.size, fun k h => hk.block k (.inl h)⟩
end
end Go.Proofs.Ybulkekys
