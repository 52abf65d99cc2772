import Derived.Test.YbulkekysMb
namespace Go.Proofs.Ybulkekys
open Go.RowKit

/-- The code behind k statements. -/
def dropSeq : Nat → Code → Code
  | 0, c => c
  | k + 1, .seq _ b => dropSeq k b
  | _ + 1, c => c

/-- What the law leaves. -/
def LPost (B : Nat) (w0 : World) : Ending → World → Prop := fun e w' => e = .returned (.bool true) ∧ Below B w0 w'

theorem lcells_at : ∀ (l : List (Int × Int)) (q : Nat) (a b : Int), l[q]? = some (a, b) → (lcells l)[q * 2]? = some (.int .i64 a) ∧ (lcells l)[q * 2 + 1]? = some (.int .i64 b)
  | [], q, a, b, h => by simp at h
  | p :: l, 0, a, b, h => by
    simp only [List.getElem?_cons_zero, Option.some.injEq] at h
    subst h
    simp [lcells]
  | p :: l, q + 1, a, b, h => by
    have := lcells_at l q a b (by simpa using h)
    have e : (q + 1) * 2 = q * 2 + 1 + 1 := by omega
    rw [e]
    simpa [lcells] using this
/-- A row that is known by its block, of whatever size. -/
theorem row_cell {w : World} {e size n g c : Nat} {xs : List Value} (h : w.ownsRow 0 e size (.slice (some ⟨g, 0, none⟩) n c) n xs) (j : Nat) (u : Value) (hj : xs[j]? = some u) : w.cell? ⟨g, j, none⟩ = some u := by
  have := World.ownsRow.cells h (g := g) rfl j u hj
  rwa [Addr.add_lit, Nat.zero_add] at this
theorem icells_at (l : List Int) (k : Nat) (x : Int) (h : l[k]? = some x) : (icells l)[k]? = some (.int .i64 x) := by simp [icells, h]
theorem DetX.drewN {F : Nat → Prop} {n : Nat} {O : Nat → List Nat} {E : Nat → Bool} {w : World} {bd : Nat} {s : DS} {m : Mem} (h : DetX F n O E w bd s m) (q : Nat) : DetX F n O E (w.drewN q) bd s m := h.blk (Nat.le_refl _) (fun _ _ => rfl)

/-- What the last loop asks of row i. -/
def AtSays (E : Nat → Bool) (O : Nat → List Nat) (in0 : Nat → List (Int × Int)) (s : DS) (LN li : Nat → Bool) (i : Nat) : Prop :=
  (LN i = true → (s.at_ i).length = (O i).length ∧ ∀ k, k < (O i).length → AtOk E i (O i) in0 s.inn (s.at_ i) k) ∧
  (LN i = false → li i = true → s.at_ i = [-7]) ∧ (LN i = false → li i = false → s.at_ i = [])

/-- The world behind markBelow: all that the law's checks read. -/
structure Tl (B : Nat) (w0 w : World) (F : Nat → Prop) (n FL bd gOc gEc cEc gL gK gN gP gBc cBc gC mm : Nat) (O : Nat → List Nat) (E li LN P bg0 : Nat → Bool) (il cnt : Nat → Nat) (s : DS) (m : Mem) (rc : Nat → Value) (in0 : Nat → List (Int × Int)) : Prop where
  hB : Below B w0 w
  hn : n ≤ 4097
  hFL : FL ≤ n
  hX : DetX F n O E w bd s m
  hlB : m.lB = FL
  hlI : m.lI = FL
  hlA : m.lA = FL
  aOc : Arr w gOc 33 n n (mr n rc)
  hrc : ∀ i, i < n → w.ownsRow 0 3 1 (rc i) (O i).length (nv .i64 (O i))
  aEc : Arr w gEc 4 n cEc (mr n fun i => .bool (E i))
  aL : Arr w gL 3 n n (mr n fun i => .int .i64 (il i : Int))
  aK : Arr w gK 4 n n (mr n fun i => .bool (li i))
  aN : Arr w gN 4 n n (mr n fun i => .bool (LN i))
  aP : Arr w gP 4 n n (mr n fun i => .bool (P i))
  aBc : Arr w gBc 4 mm cBc (mr mm fun i => .bool (bg0 i))
  aC : Arr w gC 3 n n (mr n fun i => .int .i64 (cnt i : Int))
  hO : ∀ i, i < n → ∀ h ∈ O i, h < n
  hOl : ∀ i, i < n → (O i).length ≤ 65536
  hil : ∀ h, (in0 h).length = il h
  hin : ∀ h, (s.inn h).length ≤ 100000
  hS : ∀ i, i < FL → AtSays E O in0 s LN li i
  hbg : ∀ i, i < FL → s.bg i = (bg0 i || P i)
  hb0 : ∀ i, mm ≤ i → bg0 i = false
  hlen : ∀ i, i < FL → (s.inn i).length = il i + cnt i
  hpre : ∀ i j, j < il i → (s.inn i)[j]? = some (-1, (j : Int))

theorem Tl.drewN {B : Nat} {w0 w : World} {F : Nat → Prop} {n FL bd gOc gEc cEc gL gK gN gP gBc cBc gC mm : Nat} {O : Nat → List Nat} {E li LN P bg0 : Nat → Bool} {il cnt : Nat → Nat} {s : DS} {m : Mem} {rc : Nat → Value} {in0 : Nat → List (Int × Int)}
    (h : Tl B w0 w F n FL bd gOc gEc cEc gL gK gN gP gBc cBc gC mm O E li LN P bg0 il cnt s m rc in0) (q : Nat) : Tl B w0 (w.drewN q) F n FL bd gOc gEc cEc gL gK gN gP gBc cBc gC mm O E li LN P bg0 il cnt s m rc in0 :=
  { h with
    hB := below_drewN h.hB q
    hX := h.hX.drewN q
    aOc := h.aOc.drewN q
    hrc := fun i hi => row_blk (h.hrc i hi) (fun _ _ => rfl)
    aEc := h.aEc.drewN q
    aL := h.aL.drewN q
    aK := h.aK.drewN q
    aN := h.aN.drewN q
    aP := h.aP.drewN q
    aBc := h.aBc.drewN q
    aC := h.aC.drewN q }
end Go.Proofs.Ybulkekys
