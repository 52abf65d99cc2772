import Derived.Test.YbulkekysRw
namespace Go.Proofs.Ybulkekys
open Go.RowKit

/-- The state that the law builds. -/
def mkS (bg0 li : Nat → Bool) (il : Nat → Nat) (mm : Nat) : DS := ⟨bg0, fun j => mkIn (il j), fun j => mkAt (li j), mm⟩
theorem mkAt_nil (b : Bool) : mkAt b = [] ↔ b = false := by cases b <;> simp [mkAt]
structure Fin1 (n FL mm : Nat) (O : Nat → List Nat) (E li LN P bg0 : Nat → Bool) (il : Nat → Nat) (s : DS) : Prop where
  L : s.L = FL
  says : ∀ i, AtSays E O (fun j => mkIn (il j)) s LN li i
  bg : ∀ i, s.bg i = (bg0 i || P i)
  len : ∀ i, (s.inn i).length = il i + lsum (fun p => occ E (O p) i) LN n
  pre : ∀ i j, j < il i → (s.inn i)[j]? = some (-1, (j : Int))
theorem fin1 (n FL mm : Nat) (O : Nat → List Nat) (E li LN P bg0 : Nat → Bool) (il : Nat → Nat) (vs : List Nat) (s : DS) (D K : Nat → Bool)
    (hvn : ∀ v ∈ vs, v < n) (hO : ∀ p, p < n → ∀ h ∈ O p, h < n)
    (hP : ∀ x, P x = true ↔ IP ⟨n, O, E, vs, mkS bg0 li il mm⟩ x) (hLN : ∀ p, LN p = (P p && !li p))
    (hF1 : mm ≤ FL) (hF3 : ∀ p, p < n → P p = true → p < FL) (hF4 : FL = mm ∨ ∃ p, P p = true ∧ FL = p + 1)
    (I : MInv ⟨n, O, E, vs, mkS bg0 li il mm⟩ s [] D K) : Fin1 n FL mm O E li LN P bg0 il s := by
  have hD : ∀ x, D x = P x := fun x => by
    have h1 := I.final x
    have h2 := hP x
    cases hd : D x <;> cases hp : P x <;> simp_all
  have hlt : ∀ x, P x = true → x < n := fun x hx => Cx.lt (c := ⟨n, O, E, vs, mkS bg0 li il mm⟩) hvn hO ((hP x).1 hx)
  have hKL : ∀ p, K p = LN p := fun p => by
    have k1 := I.K0 p
    have k2 := I.KD p
    have e : (mkS bg0 li il mm).at_ p = mkAt (li p) := rfl
    simp only [e] at k1 k2
    rw [mkAt_nil] at k1 k2
    rw [hLN p, ← hD p]
    cases hk : K p
    · cases hd : D p
      · rfl
      · cases hl : li p
        · rw [k2 hd hl] at hk; cases hk
        · rfl
    · obtain ⟨h1, h2⟩ := k1 hk
      rw [h1, h2]; rfl
  have hbgD : ∀ i, P i = true → s.bg i = true := fun i hi => I.qbg i (.inr (by rw [hD]; exact hi))
  refine ⟨?_, fun i => ⟨fun hl => ?_, fun hl hli => ?_, fun hl hli => ?_⟩, fun i => ?_, fun i => ?_, fun i j hj => ?_⟩
  · have h1 : FL ≤ s.L := by
      rcases hF4 with h | ⟨p, hp, h⟩
      · rw [h]; exact I.L0
      · have := I.bgL p (hbgD p hp); omega
    have h2 : s.L ≤ FL := by
      rcases I.Lx with h | ⟨i, hi, h⟩
      · rw [h]; exact hF1
      · have hp := (hP i).2 hi
        have := hF3 i (hlt i hp) hp
        omega
    omega
  · rw [← hKL] at hl
    exact ⟨I.atLen i hl, fun k hk => I.atOk i hl k hk⟩
  · rw [I.atOld i (fun h => by rw [show (mkS bg0 li il mm).at_ i = mkAt (li i) from rfl, mkAt_nil] at h; rw [h] at hli; cases hli)]
    show mkAt (li i) = _
    rw [hli]; rfl
  · rw [← hKL] at hl
    exact I.atNo i ((mkAt_nil _).2 hli) hl
  · cases hb : s.bg i
    · cases h0 : bg0 i
      · cases hp : P i
        · rfl
        · rw [hbgD i hp] at hb; cases hb
      · rw [I.old i h0] at hb; cases hb
    · rcases I.bgQ i hb with h | h | h
      · have h' : bg0 i = true := h
        rw [h']; rfl
      · cases h
      · rw [hD] at h; rw [h]; simp
  · rw [I.inLen i]
    show (mkIn (il i)).length + _ = _
    rw [mkIn_len, lsum_congr _ K LN n (fun p _ => hKL p)]
  · exact pre_at (I.inPre i) (mkIn_at (il i) j hj)
end Go.Proofs.Ybulkekys
