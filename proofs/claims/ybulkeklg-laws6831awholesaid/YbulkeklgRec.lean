import Derived.Test.YbulkeklgLeaf
import Derived.Deep.MidRow
import Derived.WideMake
namespace Go.Proofs.Ybulkeklg
open Go.RowKit

/-- A mark at which the walk stands still. -/
def Here (p : Prop) : Prop := p
theorem Here.of {p : Prop} (h : Here p) : p := h
theorem Here.out {p : Prop} (h : p) : Here p := h

/-- Does the past's bit stand? -/
def bit4 (fl : Int) : Bool := bits BinOp.and IntKind.u8 fl 4 != 0
/-- The cells of one recorded message. -/
def recL (s : ByteArray) (am fl : Int) (k : Nat) (p : Option Nat) : List Value :=
  [.string s, .bool (bits BinOp.and IntKind.u8 fl 1 != 0), .bool (bits BinOp.and IntKind.u8 fl 2 != 0), .int .i64 am, .map p, .int .u64 (IntKind.u64.wrap fl), .int .u64 (k : Int), .int .u64 (IntKind.u64.wrap am)]
/-- The map of a past. -/
def pastObj (s : ByteArray) (k : Nat) : Obj := .map #[{ key := .string s, val := .int .u64 (k : Int), born := 0 }] 1
/-- The past is nil, or a map of one entry in a block behind 'base'. -/
def PastOk (w : World) (base : Nat) (s : ByteArray) (fl : Int) (k : Nat) (p : Option Nat) : Prop :=
  (bit4 fl = false ∧ p = none) ∨ (bit4 fl = true ∧ ∃ m, p = some m ∧ base < m ∧ w.heap[m]? = some (pastObj s k))
/-- Record k lies in block 'base'. -/
def Good (w : World) (base : Nat) (s : ByteArray) (am fl : Int) (k : Nat) : Prop :=
  ∃ p, w.rangeAt base (k * 8) (recL s am fl k p) ∧ PastOk w base s fl k p

/-- Behind w' block 'base' may have turned; no other that was there. -/
theorem Good.keep {w w' : World} {base : Nat} {s : ByteArray} {am fl : Int} {k : Nat} (h : Good w base s am fl k) (hc : ∀ j, j < 8 → w'.cell? ⟨base, k * 8 + j, none⟩ = w.cell? ⟨base, k * 8 + j, none⟩)
    (hb : ∀ m, base < m → m < w.heap.size → w'.heap[m]? = w.heap[m]?) : Good w' base s am fl k := by
  obtain ⟨p, hr, hp⟩ := h
  refine ⟨p, fun j v hv => ?_, ?_⟩
  · have hj : j < 8 := by
      have := (List.getElem?_eq_some_iff.1 hv).1
      simpa [recL] using this
    rw [hc j hj]
    exact hr j v hv
  · rcases hp with hp | ⟨h1, m, h2, h3, h4⟩
    · exact .inl hp
    · exact .inr ⟨h1, m, h2, h3, (hb m h3 (Array.getElem?_eq_some_iff.1 h4).1).trans h4⟩

theorem heap_setCells (w : World) (b : Nat) : ∀ (vs : List Value) (o : Nat) (k : Nat), k ≠ b → (w.setCells b o vs).heap[k]? = w.heap[k]? := by
  intro vs
  induction vs generalizing w with
  | nil => intro o k _; rfl
  | cons v r ih =>
    intro o k hk
    rw [World.setCells, ih _ _ _ hk]
    exact Below.heap_setCell _ _ _ _ hk
theorem size_setCells (w : World) (b : Nat) : ∀ (vs : List Value) (o : Nat), (w.setCells b o vs).heap.size = w.heap.size := by
  intro vs
  induction vs generalizing w with
  | nil => intro o; rfl
  | cons v r ih =>
    intro o
    rw [World.setCells, ih]
    simp [World.setCell]
theorem below_setCells {B : Nat} {w w' : World} (h : Below B w w') (b : Nat) (hb : B ≤ b) : ∀ (vs : List Value) (o : Nat), Below B w (w'.setCells b o vs) := by
  intro vs
  induction vs generalizing w' with
  | nil => intro o; exact h
  | cons v r ih =>
    intro o
    rw [World.setCells]
    exact ih (h.setCell (p := ⟨b, o, none⟩) hb v) (o + 1)

/-- The loop's state: the first k of n records are laid. -/
structure Built (w : World) (base n k : Nat) (ss : List ByteArray) (z1 : List Int) (l1 : Nat) (z2 : List Int) (l2 : Nat) : Prop where
  there : ∀ j, j < n * 8 → (w.cell? ⟨base, j, none⟩).isSome = true ∧ w.frozen? ⟨base, j, none⟩ = false
  good : ∀ i, i < k → Good w base (ss.getD i ByteArray.empty) (rnd z1 l1 i) (rnd z2 l2 i) i

theorem Built.lt {w : World} {base n k : Nat} {ss : List ByteArray} {z1 : List Int} {l1 : Nat} {z2 : List Int} {l2 : Nat} (h : Built w base n k ss z1 l1 z2 l2) (hn : 0 < n) : base < w.heap.size := by
  obtain ⟨u, hu⟩ := Option.isSome_iff_exists.1 (h.there 0 (by omega)).1
  exact World.block_lt_of_cell? w _ hu

/-- Record k is stored. -/
theorem Built.store {w : World} {base n k : Nat} {ss : List ByteArray} {z1 : List Int} {l1 : Nat} {z2 : List Int} {l2 : Nat} (h : Built w base n k ss z1 l1 z2 l2) (hk : k < n) (L : List Value) (hL : L.length = 8) :
    Built (w.drew.setCells base (k * 8) L) base n k ss z1 l1 z2 l2 ∧ (w.drew.setCells base (k * 8) L).rangeAt base (k * 8) L := by
  have hth : w.drew.there base (k * 8) L.length := fun j hj => h.there (k * 8 + j) (by omega)
  refine ⟨⟨fun j hj => ⟨World.isSome_setCells base L (k * 8) w.drew _ (h.there j hj).1, ?_⟩, fun i hi => ?_⟩, ?_⟩
  · rw [World.frozen?_setCells]; exact (h.there j hj).2
  · refine (h.good i hi).keep (fun j hj => ?_) (fun m hm _ => heap_setCells _ _ _ _ _ (by omega))
    rw [World.cell?_setCells_out base L (k * 8) w.drew _ (fun _ _ => .inl (by show i * 8 + j < k * 8; omega))]
    rfl
  · exact World.rangeAt_setCells_same w.drew base (k * 8) L hth

/-- Without a past. -/
theorem Built.step0 {w : World} {base n k : Nat} {ss : List ByteArray} {z1 : List Int} {l1 : Nat} {z2 : List Int} {l2 : Nat} (h : Built w base n k ss z1 l1 z2 l2)
    (hr : w.rangeAt base (k * 8) (recL (ss.getD k ByteArray.empty) (rnd z1 l1 k) (rnd z2 l2 k) k none)) (hb : bit4 (rnd z2 l2 k) = false) : Built w base n (k + 1) ss z1 l1 z2 l2 :=
  ⟨h.there, fun i hi => by
    by_cases hik : i = k
    · subst hik; exact ⟨none, hr, .inl ⟨hb, rfl⟩⟩
    · exact h.good i (by omega)⟩

theorem heap_alloc_old' (w : World) (o : Obj) (k : Nat) (h : k < w.heap.size) : (w.alloc o).heap[k]? = w.heap[k]? := Below.heap_alloc w o k h

/-- With a past. -/
theorem Built.step1 {w : World} {base n k : Nat} {ss : List ByteArray} {z1 : List Int} {l1 : Nat} {z2 : List Int} {l2 : Nat} (h : Built w base n k ss z1 l1 z2 l2) (hk : k < n)
    (hr : w.rangeAt base (k * 8) (recL (ss.getD k ByteArray.empty) (rnd z1 l1 k) (rnd z2 l2 k) k none)) (hb : bit4 (rnd z2 l2 k) = true) :
    Built ((w.alloc (pastObj (ss.getD k ByteArray.empty) k)).setCell ⟨base, k * 8 + 4, none⟩ (.map (some w.heap.size))) base n (k + 1) ss z1 l1 z2 l2 := by
  have hlt := h.lt (by omega)
  have hal : ∀ j, (w.alloc (pastObj (ss.getD k ByteArray.empty) k)).cell? ⟨base, j, none⟩ = w.cell? ⟨base, j, none⟩ := fun j => World.cell?_of_block (heap_alloc_old' w _ base hlt)
  have hfr : ∀ j, (w.alloc (pastObj (ss.getD k ByteArray.empty) k)).frozen? ⟨base, j, none⟩ = w.frozen? ⟨base, j, none⟩ := fun j => World.frozen?_of_block (heap_alloc_old' w _ base hlt)
  obtain ⟨u, hu⟩ := Option.isSome_iff_exists.1 (h.there (k * 8 + 4) (by omega)).1
  have hu' := (hal (k * 8 + 4)).trans hu
  have hother : ∀ j, j ≠ k * 8 + 4 → ((w.alloc (pastObj (ss.getD k ByteArray.empty) k)).setCell ⟨base, k * 8 + 4, none⟩ (.map (some w.heap.size))).cell? ⟨base, j, none⟩ = w.cell? ⟨base, j, none⟩ := fun j hj => by
    rw [World.cell?_setCell_other _ _ _ _ (by intro e; simp only [Addr.mk.injEq, and_true, true_and] at e; exact hj e.symm), hal]
  have hsame := World.cell?_setCell_same (w.alloc (pastObj (ss.getD k ByteArray.empty) k)) ⟨base, k * 8 + 4, none⟩ (.map (some w.heap.size)) hu'
  refine ⟨fun j hj => ⟨?_, ?_⟩, fun i hi => ?_⟩
  · by_cases e : j = k * 8 + 4
    · subst e; rw [hsame]; rfl
    · rw [hother j e]; exact (h.there j hj).1
  · rw [World.frozen?_setCell, hfr]; exact (h.there j hj).2
  · by_cases hik : i = k
    · subst hik
      refine ⟨some w.heap.size, fun j v hv => ?_, .inr ⟨hb, w.heap.size, rfl, hlt, ?_⟩⟩
      · by_cases e : j = 4
        · subst e
          rw [hsame]
          simp [recL] at hv
          rw [hv]
        · rw [hother _ (by omega)]
          refine hr j v ?_
          rw [← hv]
          have hj : j < 8 := by
            have := (List.getElem?_eq_some_iff.1 hv).1
            simpa [recL] using this
          rcases (show j = 0 ∨ j = 1 ∨ j = 2 ∨ j = 3 ∨ j = 5 ∨ j = 6 ∨ j = 7 by omega) with rfl | rfl | rfl | rfl | rfl | rfl | rfl <;> rfl
      · rw [Below.heap_setCell _ _ _ _ (by show w.heap.size ≠ base; omega)]
        exact heap_alloc_new w _
    · refine (h.good i (by omega)).keep (fun j hj => hother _ (by omega)) (fun m hm hml => ?_)
      rw [Below.heap_setCell _ _ _ _ (by show m ≠ base; omega)]
      exact heap_alloc_old' w _ m hml

/-- A store and a new block, in either order. -/
theorem setCell_alloc_swap (w : World) (b o : Nat) (v : Value) (ob : Obj) (h : b < w.heap.size) : (w.setCell ⟨b, o, none⟩ v).alloc ob = (w.alloc ob).setCell ⟨b, o, none⟩ v := by
  unfold World.setCell
  show ({ w with heap := (w.heap.modify b _).push ob } : World) = { w with heap := (w.heap.push ob).modify b _ }
  congr 1
  apply Array.ext_getElem?
  intro i
  simp only [Array.getElem?_push, Array.getElem?_modify, Array.size_modify]
  by_cases h1 : i = w.heap.size
  · subst h1
    rw [if_pos rfl, if_neg (by omega), if_pos rfl]
  · rw [if_neg h1, if_neg h1]

/-- The map literal's one entry. -/
theorem run_fill (w : World) (s : ByteArray) (k : Nat) :
    (Instr.mapUpdate 33 (.map (some w.heap.size)) (.string s) (.int .u64 (k : Int))).run Yba.prog (w.alloc (.map #[] 0)) = .ok () (w.alloc (pastObj s k)) := by
  rw [run_mapUpdate_first (P := Yba.prog) (w.alloc (.map #[] 0)) 33 9 34 w.heap.size 0 s _ Yba.underlying33 Yba.underlying9 (heap_alloc_new w _)]
  congr 1
  show ({ w.alloc (.map #[] 0) with heap := (w.heap.push (.map #[] 0)).setIfInBounds w.heap.size _ } : World) = _
  have : (w.heap.push (.map #[] 0)).setIfInBounds w.heap.size (pastObj s k) = w.heap.push (pastObj s k) := by
    apply Array.ext_getElem?
    intro i
    rw [Array.getElem?_setIfInBounds]
    by_cases hi : w.heap.size = i
    · subst hi; simp
    · rw [if_neg hi, Array.getElem?_push, Array.getElem?_push, if_neg (by omega), if_neg (by omega)]
  exact congrArg (fun h => ({ w.alloc (.map #[] 0) with heap := h } : World)) this

end Go.Proofs.Ybulkeklg
