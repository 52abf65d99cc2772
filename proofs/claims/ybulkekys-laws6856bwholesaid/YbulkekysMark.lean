import Derived.Test.YbulkekysSort
namespace Go.Proofs.Ybulkekys

/-- One place of a function turned. -/
def upd {α : Type} (f : Nat → α) (i : Nat) (x : α) : Nat → α := fun j => if j = i then x else f j
theorem upd_same {α : Type} (f : Nat → α) (i : Nat) (x : α) : upd f i x i = x := by simp [upd]
theorem upd_other {α : Type} (f : Nat → α) (i j : Nat) (x : α) (h : j ≠ i) : upd f i x j = f j := by simp [upd, h]

/-- What the detector's three growing rows hold. -/
structure DS where
  bg : Nat → Bool
  inn : Nat → List (Int × Int)
  at_ : Nat → List Int
  L : Nat

def DS.mark (s : DS) (v : Nat) : DS := { s with bg := upd s.bg v true, L := max s.L (v + 1) }

/-- linkWaiter behind k of the ends O: the waiter lists, and the row of places. -/
def lkTo (E : Nat → Bool) (p : Nat) (O : List Nat) (inn : Nat → List (Int × Int)) : Nat → (Nat → List (Int × Int)) × List Int
  | 0 => (inn, [])
  | k + 1 =>
    if E (O.getD k 0) then ((lkTo E p O inn k).1, (lkTo E p O inn k).2 ++ [-1])
    else (upd (lkTo E p O inn k).1 (O.getD k 0) ((lkTo E p O inn k).1 (O.getD k 0) ++ [((p : Int), (k : Int))]), (lkTo E p O inn k).2 ++ [(((lkTo E p O inn k).1 (O.getD k 0)).length : Int)])
def DS.link (s : DS) (E : Nat → Bool) (p : Nat) (O : List Nat) : DS := { s with inn := (lkTo E p O s.inn O.length).1, at_ := upd s.at_ p (lkTo E p O s.inn O.length).2 }

/-- How often h stands in O, where h has not ended. -/
def occ (E : Nat → Bool) (O : List Nat) (h : Nat) : Nat := if E h then 0 else O.count h

theorem lkTo_len (E : Nat → Bool) (p : Nat) (O : List Nat) (inn : Nat → List (Int × Int)) : ∀ k, (lkTo E p O inn k).2.length = k
  | 0 => rfl
  | k + 1 => by
    simp only [lkTo]
    split <;> simp [lkTo_len E p O inn k]
theorem lkTo_pre (E : Nat → Bool) (p : Nat) (O : List Nat) (inn : Nat → List (Int × Int)) (h : Nat) : ∀ k, inn h <+: (lkTo E p O inn k).1 h
  | 0 => List.prefix_rfl
  | k + 1 => by
    have ih := lkTo_pre E p O inn h k
    simp only [lkTo]
    split <;> dsimp only
    · exact ih
    · by_cases e : h = O.getD k 0
      · rw [e, upd_same, ← e]
        exact ih.trans (List.prefix_append _ _)
      · rw [upd_other _ _ _ _ e]; exact ih
theorem lkTo_step_pre (E : Nat → Bool) (p : Nat) (O : List Nat) (inn : Nat → List (Int × Int)) (h k : Nat) : (lkTo E p O inn k).1 h <+: (lkTo E p O inn (k + 1)).1 h := by
  simp only [lkTo]
  split <;> dsimp only
  · exact List.prefix_rfl
  · by_cases e : h = O.getD k 0
    · rw [e, upd_same]
      exact List.prefix_append _ _
    · rw [upd_other _ _ _ _ e]; exact List.prefix_rfl
theorem lkTo_occ (E : Nat → Bool) (p : Nat) (O : List Nat) (inn : Nat → List (Int × Int)) (h : Nat) : ∀ k, k ≤ O.length → ((lkTo E p O inn k).1 h).length = (inn h).length + occ E (O.take k) h
  | 0, _ => by simp [lkTo, occ]
  | k + 1, hk => by
    have ih := lkTo_occ E p O inn h k (by omega)
    have ht : O.take (k + 1) = O.take k ++ [O.getD k 0] := by
      rw [take_next O k (by omega)]
      simp [List.getD, List.getElem?_eq_getElem (show k < O.length by omega)]
    rw [ht]
    unfold occ at ih ⊢
    simp only [lkTo]
    by_cases e : h = O.getD k 0
    · subst e
      split <;> dsimp only
      · rename_i he
        simp only [he, if_true] at ih ⊢
        exact ih
      · rename_i he
        simp only [he] at ih ⊢
        rw [upd_same]
        simp [List.count_append] at ih ⊢
        omega
    · have hc : List.count h (O.take k ++ [O.getD k 0]) = List.count h (O.take k) := by
        rw [List.count_append, List.count_eq_zero_of_not_mem (l := [O.getD k 0]) (by simp; exact e)]
        rfl
      rw [hc]
      split <;> dsimp only
      · exact ih
      · rw [upd_other _ _ _ _ e]; exact ih
/-- What each place of the row says. -/
def AtOk (E : Nat → Bool) (p : Nat) (O : List Nat) (in0 inn : Nat → List (Int × Int)) (at_ : List Int) (k : Nat) : Prop :=
  (E (O.getD k 0) = true ∧ at_[k]? = some (-1)) ∨
  (E (O.getD k 0) = false ∧ ∃ i : Nat, at_[k]? = some (i : Int) ∧ (in0 (O.getD k 0)).length ≤ i ∧ (inn (O.getD k 0))[i]? = some ((p : Int), (k : Int)))
theorem pre_at {α : Type} {l m : List α} (h : l <+: m) {i : Nat} {x : α} (hx : l[i]? = some x) : m[i]? = some x := by
  obtain ⟨t, rfl⟩ := h
  rw [List.getElem?_append_left (List.getElem?_eq_some_iff.1 hx).1]
  exact hx
theorem AtOk.mono {E : Nat → Bool} {p : Nat} {O : List Nat} {in0 inn inn' : Nat → List (Int × Int)} {at_ at' : List Int} {k : Nat} (h : AtOk E p O in0 inn at_ k) (hi : ∀ x, inn x <+: inn' x) (ha : at_ <+: at') : AtOk E p O in0 inn' at' k := by
  rcases h with ⟨h1, h2⟩ | ⟨h1, i, h2, h3, h4⟩
  · exact .inl ⟨h1, pre_at ha h2⟩
  · exact .inr ⟨h1, i, pre_at ha h2, h3, pre_at (hi _) h4⟩
theorem lkTo_at (E : Nat → Bool) (p : Nat) (O : List Nat) (in0 inn : Nat → List (Int × Int)) (hp : ∀ h, (in0 h).length ≤ (inn h).length) : ∀ k, k ≤ O.length → ∀ j, j < k → AtOk E p O in0 (lkTo E p O inn k).1 (lkTo E p O inn k).2 j
  | 0, _, j, hj => absurd hj (by omega)
  | k + 1, hk, j, hj => by
    have hl := lkTo_len E p O inn k
    have hat : (lkTo E p O inn k).2 <+: (lkTo E p O inn (k + 1)).2 := by
      simp only [lkTo]; split <;> exact List.prefix_append _ _
    by_cases e : j = k
    · subst e
      unfold AtOk
      simp only [lkTo]
      cases he : E (O.getD j 0)
      · refine .inr ⟨rfl, ((lkTo E p O inn j).1 (O.getD j 0)).length, ?_, ?_, ?_⟩
        · simp [hl]
        · exact Nat.le_trans (hp _) (lkTo_pre E p O inn (O.getD j 0) j).length_le
        · simp [upd_same]
      · refine .inl ⟨rfl, ?_⟩
        simp [hl]
    · exact (lkTo_at E p O in0 inn hp k (by omega) j (by omega)).mono (fun x => lkTo_step_pre E p O inn x k) hat

/-- The sum over the linked waiters. -/
def lsum (f : Nat → Nat) (K : Nat → Bool) : Nat → Nat
  | 0 => 0
  | p + 1 => lsum f K p + (if K p then f p else 0)
theorem lsum_upd (f : Nat → Nat) (K : Nat → Bool) (q : Nat) (hq : K q = false) : ∀ n, lsum f (upd K q true) n = lsum f K n + (if q < n then f q else 0)
  | 0 => by simp [lsum]
  | n + 1 => by
    rw [lsum, lsum, lsum_upd f K q hq n]
    by_cases e : n = q
    · subst e
      rw [upd_same, hq]
      simp
    · rw [upd_other _ _ _ _ e]
      by_cases h1 : q < n
      · simp [h1, show q < n + 1 by omega]; omega
      · simp [h1, show ¬ q < n + 1 by omega]
theorem lsum_zero (f : Nat → Nat) (K : Nat → Bool) (q : Nat) (hq : f q = 0) : ∀ n, lsum f (upd K q true) n = lsum f K n
  | 0 => rfl
  | n + 1 => by
    rw [lsum, lsum, lsum_zero f K q hq n]
    by_cases e : n = q
    · subst e; simp [hq]
    · rw [upd_other _ _ _ _ e]
theorem lsum_le (f g : Nat → Nat) (K : Nat → Bool) (h : ∀ p, f p ≤ g p) : ∀ n, lsum f K n ≤ lsum g (fun _ => true) n
  | 0 => Nat.le_refl _
  | n + 1 => by
    have ih := lsum_le f g K h n
    have := h n
    simp only [lsum]
    split <;> simp <;> omega
theorem lsum_congr (f : Nat → Nat) (K K' : Nat → Bool) : ∀ n, (∀ p, p < n → K p = K' p) → lsum f K n = lsum f K' n
  | 0, _ => rfl
  | n + 1, h => by rw [lsum, lsum, lsum_congr f K K' n (fun p hp => h p (by omega)), h n (by omega)]

end Go.Proofs.Ybulkekys
