import Derived.Test.YbulkekysT1c
namespace Go.Proofs.Ybulkekys
open Go.RowKit

/-- The rows of 'in' and 'outAt' while the law lays them: all at b1 or behind. -/
structure RI (b1 : Nat) (w : World) (in1 : Nat → List (Int × Int)) (at1 : Nat → List Int) (inV atV : Nat → Value) : Prop where
  hs : b1 ≤ w.heap.size
  inRow : ∀ j, w.ownsRow 0 39 2 (inV j) (in1 j).length (lcells (in1 j))
  atRow : ∀ j, w.ownsRow 0 3 1 (atV j) (at1 j).length (icells (at1 j))
  atNil : ∀ j, at1 j = [] → atV j = .slice none 0 0
  inB : ∀ j g, (inV j).ownBlock = some g → b1 ≤ g
  atB : ∀ j g, (atV j).ownBlock = some g → b1 ≤ g
  dis : ∀ i j g, (inV i).ownBlock = some g → (inV j).ownBlock = some g → i = j
theorem RI.start {b1 : Nat} {w : World} (h : b1 ≤ w.heap.size) : RI b1 w (fun _ => []) (fun _ => []) (fun _ => .slice none 0 0) (fun _ => .slice none 0 0) :=
  ⟨h, fun _ => ⟨rfl, .inl ⟨rfl, rfl⟩⟩, fun _ => ⟨rfl, .inl ⟨rfl, rfl⟩⟩, fun _ _ => rfl, fun _ g h => (by cases h), fun _ g h => (by cases h), fun _ _ g h => (by cases h)⟩
section
variable {b1 : Nat} {w w' : World} {in1 : Nat → List (Int × Int)} {at1 : Nat → List Int} {inV atV : Nat → Value}
theorem RI.blk (h : RI b1 w in1 at1 inV atV) (hs : w.heap.size ≤ w'.heap.size) (hb : ∀ k, b1 ≤ k → k < w.heap.size → w'.heap[k]? = w.heap[k]?) : RI b1 w' in1 at1 inV atV :=
  { h with
    hs := Nat.le_trans h.hs hs
    inRow := fun j => row_blk (h.inRow j) (fun g hg => hb g (h.inB j g hg) (row_lt (h.inRow j) hg))
    atRow := fun j => row_blk (h.atRow j) (fun g hg => hb g (h.atB j g hg) (row_lt (h.atRow j) hg)) }
theorem RI.set (h : RI b1 w in1 at1 inV atV) (g o : Nat) (u : Value) (hg : g < b1) : RI b1 (w.setCell ⟨g, o, none⟩ u) in1 at1 inV atV :=
  h.blk (by simp) (fun k hk _ => Below.heap_setCell w _ u k (fun e => by have e' : k = g := e; omega))
theorem RI.below (h : RI b1 w in1 at1 inV atV) (hb : Below w.heap.size w w') : RI b1 w' in1 at1 inV atV := h.blk hb.size (fun k _ hk => hb.block k hk)
theorem RI.putIn (h : RI b1 w in1 at1 inV atV) (i : Nat) (v : Value) (l : List (Int × Int)) (hv : w.ownsRow 0 39 2 v l.length (lcells l)) (hn : ∀ g, v.ownBlock = some g → b1 ≤ g ∧ ∀ j, (inV j).ownBlock ≠ some g) : RI b1 w (upd in1 i l) at1 (upd inV i v) atV := by
  refine { h with inRow := fun j => ?_, inB := fun j g hg => ?_, dis := fun x y g hx hy => ?_ }
  · by_cases e : j = i
    · subst e; rw [upd_same, upd_same]; exact hv
    · rw [upd_other _ _ _ _ e, upd_other _ _ _ _ e]; exact h.inRow j
  · by_cases e : j = i
    · subst e; rw [upd_same] at hg; exact (hn g hg).1
    · rw [upd_other _ _ _ _ e] at hg; exact h.inB j g hg
  · by_cases e : x = i
    · by_cases e2 : y = i
      · rw [e, e2]
      · rw [e, upd_same] at hx
        rw [upd_other _ _ _ _ e2] at hy
        exact absurd hy ((hn g hx).2 y)
    · rw [upd_other _ _ _ _ e] at hx
      by_cases e2 : y = i
      · rw [e2, upd_same] at hy
        exact absurd hx ((hn g hy).2 x)
      · rw [upd_other _ _ _ _ e2] at hy
        exact h.dis x y g hx hy
theorem RI.putAt (h : RI b1 w in1 at1 inV atV) (i : Nat) (v : Value) (l : List Int) (hv : w.ownsRow 0 3 1 v l.length (icells l)) (h0 : l = [] → v = .slice none 0 0) (hn : ∀ g, v.ownBlock = some g → b1 ≤ g) : RI b1 w in1 (upd at1 i l) inV (upd atV i v) := by
  refine { h with atRow := fun j => ?_, atB := fun j g hg => ?_, atNil := fun j hj => ?_ }
  · by_cases e : j = i
    · subst e; rw [upd_same, upd_same]; exact hv
    · rw [upd_other _ _ _ _ e, upd_other _ _ _ _ e]; exact h.atRow j
  · by_cases e : j = i
    · subst e; rw [upd_same] at hj ⊢; exact h0 hj
    · rw [upd_other _ _ _ _ e] at hj ⊢; exact h.atNil j hj
  · by_cases e : j = i
    · subst e; rw [upd_same] at hg; exact hn g hg
    · rw [upd_other _ _ _ _ e] at hg; exact h.atB j g hg
end

/-- The links of row j of 'in' at first. -/
def mkIn (k : Nat) : List (Int × Int) := (List.range k).map fun (j : Nat) => ((-1 : Int), (j : Int))
def mkAt (b : Bool) : List Int := if b then [-7] else []
def inTo (il : Nat → Nat) (p : Nat) : Nat → List (Int × Int) := fun j => mkIn (if j < p then il j else 0)
def atTo (li : Nat → Bool) (p : Nat) : Nat → List Int := fun j => mkAt (if j < p then li j else false)
theorem inTo_step (il : Nat → Nat) (p : Nat) : inTo il (p + 1) = upd (inTo il p) p (mkIn (il p)) := by
  funext i
  unfold inTo
  by_cases e : i = p
  · subst e; simp [upd_same]
  · rw [upd_other _ _ _ _ e]
    by_cases h : i < p
    · simp [h, show i < p + 1 by omega]
    · simp [h, show ¬ i < p + 1 by omega]
theorem atTo_step (li : Nat → Bool) (p : Nat) : atTo li (p + 1) = upd (atTo li p) p (mkAt (li p)) := by
  funext i
  unfold atTo
  by_cases e : i = p
  · subst e; simp [upd_same]
  · rw [upd_other _ _ _ _ e]
    by_cases h : i < p
    · simp [h, show i < p + 1 by omega]
    · simp [h, show ¬ i < p + 1 by omega]
theorem upd_id {α : Type} (f : Nat → α) (i : Nat) (x : α) (h : f i = x) : upd f i x = f := by
  funext j
  by_cases e : j = i
  · subst e; rw [upd_same, h]
  · rw [upd_other _ _ _ _ e]
theorem inTo_skip (il : Nat → Nat) (p : Nat) (h : il p = 0) : inTo il (p + 1) = inTo il p := by
  rw [inTo_step]; exact upd_id _ _ _ (by simp [inTo, h])
theorem atTo_skip (li : Nat → Bool) (p : Nat) (h : li p = false) : atTo li (p + 1) = atTo li p := by
  rw [atTo_step]; exact upd_id _ _ _ (by simp [atTo, h])
theorem nTo_skip (il : Nat → Nat) (p : Nat) (h : il p = 0) : nTo il (p + 1) = nTo il p := by
  rw [nTo_step]; exact upd_id _ _ _ (by simp [nTo, h])
theorem lnTo_skip (li : Nat → Bool) (p : Nat) (h : li p = false) : lnTo li (p + 1) = lnTo li p := by
  rw [lnTo_step]; exact upd_id _ _ _ (by simp [lnTo, h])
theorem mkIn_len (k : Nat) : (mkIn k).length = k := by simp [mkIn]
theorem mkIn_at (k q : Nat) (h : q < k) : (mkIn k)[q]? = some (-1, (q : Int)) := by simp [mkIn, h]
theorem lc_ext (xs : List Value) (k : Nat) (hl : xs.length = k * 2) (h : ∀ q, q < k → xs[q * 2]? = some (.int .i64 (-1)) ∧ xs[q * 2 + 1]? = some (.int .i64 (q : Int))) : xs = lcells (mkIn k) := by
  refine List.ext_getElem? fun t => ?_
  by_cases ht : t < k * 2
  · have h1 := h (t / 2) (by omega)
    have h2 := lcells_at (mkIn k) (t / 2) _ _ (mkIn_at k (t / 2) (by omega))
    by_cases e : t % 2 = 0
    · have e' : t / 2 * 2 = t := by omega
      rw [e'] at h1 h2
      rw [h1.1, h2.1]
    · have e' : t / 2 * 2 + 1 = t := by omega
      rw [e'] at h1 h2
      rw [h1.2, h2.2]
  · rw [List.getElem?_eq_none (by omega), List.getElem?_eq_none (by rw [lcells_len, mkIn_len]; omega)]

/-- The memory while loop 5 runs: behind i1 marks, i2 waiter rows, i3 rows of places. -/
structure M18 (B1 b1 : Nat) (w0 w : World) (n mm gB gI gA gL gK i1 i2 i3 : Nat) (bg0 li : Nat → Bool) (il : Nat → Nat) (inV atV : Nat → Value) : Prop where
  hB : Below B1 w0 w
  aB : Arr w gB 4 mm mm (mr mm (lnTo bg0 i1))
  aI : Arr w gI 37 mm mm (mr mm inV)
  aA : Arr w gA 33 mm mm (mr mm atV)
  aL : Arr w gL 3 n n (mr n (nTo il i2))
  aK : Arr w gK 4 n n (mr n (lnTo li i3))
  ri : RI b1 w (inTo il i2) (atTo li i3) inV atV
  lB : B1 ≤ gB ∧ gB < b1 ∧ gB ≠ gK
  lI : B1 ≤ gI ∧ gI < b1
  lA : B1 ≤ gA ∧ gA < b1
  lL : B1 ≤ gL ∧ gL < b1
  lK : B1 ≤ gK ∧ gK < b1
section
variable {B1 b1 : Nat} {w0 w w' : World} {n mm gB gI gA gL gK i1 i2 i3 : Nat} {bg0 li : Nat → Bool} {il : Nat → Nat} {inV atV : Nat → Value}
theorem M18.below (h : M18 B1 b1 w0 w n mm gB gI gA gL gK i1 i2 i3 bg0 li il inV atV) (hb : Below w.heap.size w w') : M18 B1 b1 w0 w' n mm gB gI gA gL gK i1 i2 i3 bg0 li il inV atV :=
  { h with
    hB := h.hB.trans (hb.mono (by have := h.aB.lt; have := h.lB; omega))
    aB := h.aB.below hb h.aB.lt
    aI := h.aI.below hb h.aI.lt
    aA := h.aA.below hb h.aA.lt
    aL := h.aL.below hb h.aL.lt
    aK := h.aK.below hb h.aK.lt
    ri := h.ri.below hb }
theorem M18.setB (h : M18 B1 b1 w0 w n mm gB gI gA gL gK i1 i2 i3 bg0 li il inV atV) : M18 B1 b1 w0 (w.setCell ⟨gB, i1, none⟩ (.bool (bg0 i1))) n mm gB gI gA gL gK (i1 + 1) i2 i3 bg0 li il inV atV :=
  { h with
    hB := below_set h.hB gB i1 _ h.lB.1
    aB := by rw [lnTo_step]; exact h.aB.setMr i1 _
    aI := h.aI.other _ _ _ (ty_ne h.aI.ty h.aB.ty (by decide))
    aA := h.aA.other _ _ _ (ty_ne h.aA.ty h.aB.ty (by decide))
    aL := h.aL.other _ _ _ (ty_ne h.aL.ty h.aB.ty (by decide))
    aK := h.aK.other _ _ _ h.lB.2.2.symm
    ri := h.ri.set _ _ _ h.lB.2.1 }
/-- inLen0[i] = k. -/
theorem M18.setL (h : M18 B1 b1 w0 w n mm gB gI gA gL gK i1 i2 i3 bg0 li il inV atV) (u : Value) : Below B1 w0 (w.setCell ⟨gL, i2, none⟩ u) ∧ Arr (w.setCell ⟨gL, i2, none⟩ u) gB 4 mm mm (mr mm (lnTo bg0 i1)) ∧ Arr (w.setCell ⟨gL, i2, none⟩ u) gI 37 mm mm (mr mm inV) ∧ Arr (w.setCell ⟨gL, i2, none⟩ u) gA 33 mm mm (mr mm atV) ∧ Arr (w.setCell ⟨gL, i2, none⟩ u) gL 3 n n (mr n (upd (nTo il i2) i2 u)) ∧ Arr (w.setCell ⟨gL, i2, none⟩ u) gK 4 n n (mr n (lnTo li i3)) ∧ RI b1 (w.setCell ⟨gL, i2, none⟩ u) (inTo il i2) (atTo li i3) inV atV :=
  ⟨below_set h.hB gL i2 _ h.lL.1, h.aB.other _ _ _ (ty_ne h.aB.ty h.aL.ty (by decide)), h.aI.other _ _ _ (ty_ne h.aI.ty h.aL.ty (by decide)), h.aA.other _ _ _ (ty_ne h.aA.ty h.aL.ty (by decide)), h.aL.setMr i2 _, h.aK.other _ _ _ (ty_ne h.aK.ty h.aL.ty (by decide)), h.ri.set _ _ _ h.lL.2⟩
theorem M18.setL0 (h : M18 B1 b1 w0 w n mm gB gI gA gL gK i1 i2 i3 bg0 li il inV atV) (h0 : il i2 = 0) : M18 B1 b1 w0 (w.setCell ⟨gL, i2, none⟩ (.int .i64 0)) n mm gB gI gA gL gK i1 (i2 + 1) i3 bg0 li il inV atV := by
  obtain ⟨h1, h2, h3, h4, h5, h6, h7⟩ := h.setL (.int .i64 0)
  exact { h with hB := h1, aB := h2, aI := h3, aA := h4, aL := (by rw [nTo_step, h0]; exact h5), aK := h6, ri := (by rw [inTo_skip _ _ h0]; exact h7) }
theorem M18.skipL (h : M18 B1 b1 w0 w n mm gB gI gA gL gK i1 i2 i3 bg0 li il inV atV) (h0 : il i2 = 0) : M18 B1 b1 w0 w n mm gB gI gA gL gK i1 (i2 + 1) i3 bg0 li il inV atV :=
  { h with aL := (by rw [nTo_skip _ _ h0]; exact h.aL), ri := (by rw [inTo_skip _ _ h0]; exact h.ri) }
/-- inLen0[i] = k and in[i] = row, row laid between. -/
theorem M18.setIn (h : M18 B1 b1 w0 w n mm gB gI gA gL gK i1 i2 i3 bg0 li il inV atV) {w2 : World} (hb : Below (w.setCell ⟨gL, i2, none⟩ (.int .i64 (il i2 : Int))).heap.size (w.setCell ⟨gL, i2, none⟩ (.int .i64 (il i2 : Int))) w2) {gr c : Nat} (hg : w.heap.size ≤ gr)
    (hr : w2.ownsRow 0 39 2 (.slice (some ⟨gr, 0, none⟩) (il i2) c) (il i2) (lcells (mkIn (il i2)))) :
    M18 B1 b1 w0 (w2.setCell ⟨gI, i2, none⟩ (.slice (some ⟨gr, 0, none⟩) (il i2) c)) n mm gB gI gA gL gK i1 (i2 + 1) i3 bg0 li il (upd inV i2 (.slice (some ⟨gr, 0, none⟩) (il i2) c)) atV := by
  obtain ⟨h1, h2, h3, h4, h5, h6, h7⟩ := h.setL (.int .i64 (il i2 : Int))
  have hsz : (w.setCell ⟨gL, i2, none⟩ (.int .i64 (il i2 : Int))).heap.size = w.heap.size := by simp
  generalize hw1 : w.setCell ⟨gL, i2, none⟩ (.int .i64 (il i2 : Int)) = w1 at *
  have hs := h.ri.hs
  have k1 : Below B1 w0 w2 := h1.trans (hb.mono (by have := h.lB; omega))
  have k2 := h2.below hb h2.lt
  have k3 := h3.below hb h3.lt
  have k4 := h4.below hb h4.lt
  have k5 := h5.below hb h5.lt
  have k6 := h6.below hb h6.lt
  have k7 := h7.below hb
  have hgi : gI ≠ gr := by have := h.lI; omega
  refine { h with
    hB := below_set k1 gI i2 _ h.lI.1
    aB := k2.other _ _ _ (ty_ne k2.ty k3.ty (by decide))
    aI := k3.setMr i2 _
    aA := k4.other _ _ _ (ty_ne k4.ty k3.ty (by decide))
    aL := by rw [nTo_step]; exact k5.other _ _ _ (ty_ne k5.ty k3.ty (by decide))
    aK := k6.other _ _ _ (ty_ne k6.ty k3.ty (by decide))
    ri := ?_ }
  rw [inTo_step]
  refine RI.putIn (k7.set _ _ _ h.lI.2) i2 _ _ ?_ ?_
  · rw [mkIn_len]
    exact row_blk hr (fun g hg => Below.heap_setCell w2 _ _ g (fun e => by
      have e' : g = gI := e
      simp only [Value.ownBlock, Option.some.injEq] at hg
      omega))
  · intro g hg'
    simp only [Value.ownBlock, Option.some.injEq] at hg'
    refine ⟨by omega, fun j hj => ?_⟩
    have := row_lt (h.ri.inRow j) hj
    omega
theorem M18.skipK (h : M18 B1 b1 w0 w n mm gB gI gA gL gK i1 i2 i3 bg0 li il inV atV) (h0 : li i3 = false) : M18 B1 b1 w0 w n mm gB gI gA gL gK i1 i2 (i3 + 1) bg0 li il inV atV :=
  { h with aK := (by rw [lnTo_skip _ _ h0]; exact h.aK), ri := (by rw [atTo_skip _ _ h0]; exact h.ri) }
/-- isLinked[i] = true; outAt[i] = []int{-7}. -/
theorem M18.setK (h : M18 B1 b1 w0 w n mm gB gI gA gL gK i1 i2 i3 bg0 li il inV atV) (h0 : li i3 = true) :
    M18 B1 b1 w0 (((w.setCell ⟨gK, i3, none⟩ (.bool true)).alloc (.cells #[.int .i64 (-7)] 3)).setCell ⟨gA, i3, none⟩ (.slice (some ⟨w.heap.size, 0, none⟩) 1 1)) n mm gB gI gA gL gK i1 i2 (i3 + 1) bg0 li il inV (upd atV i3 (.slice (some ⟨w.heap.size, 0, none⟩) 1 1)) := by
  have hs := h.ri.hs
  have hsz : (w.setCell ⟨gK, i3, none⟩ (.bool true)).heap.size = w.heap.size := by simp
  have k1 := below_set h.hB gK i3 (.bool true) h.lK.1
  have k2 := h.aB.other gK i3 (.bool true) h.lB.2.2
  have k3 := h.aI.other gK i3 (.bool true) (ty_ne h.aI.ty h.aK.ty (by decide))
  have k4 := h.aA.other gK i3 (.bool true) (ty_ne h.aA.ty h.aK.ty (by decide))
  have k5 := h.aL.other gK i3 (.bool true) (ty_ne h.aL.ty h.aK.ty (by decide))
  have k6 := h.aK.setMr i3 (.bool true)
  have k7 := h.ri.set gK i3 (.bool true) h.lK.2
  generalize hw1 : w.setCell ⟨gK, i3, none⟩ (.bool true) = w1 at *
  have hb : Below w1.heap.size w1 (w1.alloc (.cells #[.int .i64 (-7)] 3)) := (Below.refl _ _).alloc (Nat.le_refl _) _
  have m1 : Below B1 w0 (w1.alloc (.cells #[.int .i64 (-7)] 3)) := k1.trans (hb.mono (by have := h.lB; omega))
  have m2 := k2.below hb k2.lt
  have m3 := k3.below hb k3.lt
  have m4 := k4.below hb k4.lt
  have m5 := k5.below hb k5.lt
  have m6 := k6.below hb k6.lt
  have m7 := k7.below hb
  have hrow : (w1.alloc (.cells #[.int .i64 (-7)] 3)).ownsRow 0 3 1 (.slice (some ⟨w.heap.size, 0, none⟩) 1 1) 1 [.int .i64 (-7)] := by
    rw [← hsz]
    exact ⟨rfl, .inr ⟨w1.heap.size, 1, #[.int .i64 (-7)], rfl, Nat.zero_le _, heap_alloc_new w1 _, Nat.le_refl _, by decide, rfl, rfl⟩⟩
  have hga : gA ≠ w.heap.size := by have := h.lA; omega
  refine { h with
    hB := below_set m1 gA i3 _ h.lA.1
    aB := m2.other _ _ _ (ty_ne m2.ty m4.ty (by decide))
    aI := m3.other _ _ _ (ty_ne m3.ty m4.ty (by decide))
    aA := m4.setMr i3 _
    aL := m5.other _ _ _ (ty_ne m5.ty m4.ty (by decide))
    aK := by rw [lnTo_step, h0]; exact m6.other _ _ _ (ty_ne m6.ty m4.ty (by decide))
    ri := ?_ }
  rw [atTo_step, h0]
  refine RI.putAt (m7.set _ _ _ h.lA.2) i3 _ [-7] ?_ ?_ ?_
  · exact row_blk hrow (fun g hg => Below.heap_setCell _ _ _ g (fun e => by
      have e' : g = gA := e
      simp only [Value.ownBlock, Option.some.injEq] at hg
      omega))
  · intro h; cases h
  · intro g hg'
    simp only [Value.ownBlock, Option.some.injEq] at hg'
    omega
end
end Go.Proofs.Ybulkekys
