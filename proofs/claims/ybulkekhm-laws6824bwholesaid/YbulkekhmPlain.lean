import Derived.WalkKit
namespace Go.Proofs.Ybulkekhm
open Go.RowKit

/-- An ASCII letter or digit. -/
def alB (n : Int) : Bool := (decide (97 ≤ n) && decide (n ≤ 122)) || (decide (65 ≤ n) && decide (n ≤ 90)) || (decide (48 ≤ n) && decide (n ≤ 57))
/-- A byte that stays. -/
def keepB (n : Int) : Bool := alB n || (n == 46) || (n == 45)

theorem al_cases (n : Int) : (alB n = true ∧ 97 ≤ n ∧ n ≤ 122) ∨ (alB n = true ∧ 65 ≤ n ∧ n ≤ 90) ∨ (alB n = true ∧ 48 ≤ n ∧ n ≤ 57) ∨
    (alB n = false ∧ n < 48) ∨ (alB n = false ∧ 57 < n ∧ n < 65) ∨ (alB n = false ∧ 90 < n ∧ n < 97) ∨ (alB n = false ∧ 122 < n) := by
  unfold alB
  by_cases h1 : n < 48
  · right; right; right; left; refine ⟨?_, h1⟩; simp; omega
  by_cases h2 : n ≤ 57
  · right; right; left; refine ⟨?_, by omega, h2⟩; simp; omega
  by_cases h3 : n < 65
  · right; right; right; right; left; refine ⟨?_, by omega, h3⟩; simp; omega
  by_cases h4 : n ≤ 90
  · right; left; refine ⟨?_, by omega, h4⟩; simp; omega
  by_cases h5 : n < 97
  · right; right; right; right; right; left; refine ⟨?_, by omega, h5⟩; simp; omega
  by_cases h6 : n ≤ 122
  · left; refine ⟨?_, by omega, h6⟩; simp; omega
  · right; right; right; right; right; right; refine ⟨?_, by omega⟩; simp; omega

theorem keep_cases (n : Int) : (keepB n = true ∧ 97 ≤ n ∧ n ≤ 122) ∨ (keepB n = true ∧ 65 ≤ n ∧ n ≤ 90) ∨ (keepB n = true ∧ 48 ≤ n ∧ n ≤ 57) ∨ (keepB n = true ∧ n = 46) ∨ (keepB n = true ∧ n = 45) ∨
    (keepB n = false ∧ n < 45) ∨ (keepB n = false ∧ 46 < n ∧ n < 48) ∨ (keepB n = false ∧ 57 < n ∧ n < 65) ∨ (keepB n = false ∧ 90 < n ∧ n < 97) ∨ (keepB n = false ∧ 122 < n) := by
  unfold keepB
  rcases al_cases n with ⟨h, h1, h2⟩ | ⟨h, h1, h2⟩ | ⟨h, h1, h2⟩ | ⟨h, h1⟩ | ⟨h, h1, h2⟩ | ⟨h, h1, h2⟩ | ⟨h, h1⟩ <;> rw [h]
  · simp; omega
  · simp; omega
  · simp; omega
  · by_cases h46 : n = 46
    · simp [h46]
    by_cases h45 : n = 45
    · simp [h45]
    simp [h46, h45]; omega
  · have h46 : ¬ n = 46 := by omega
    have h45 : ¬ n = 45 := by omega
    simp [h46, h45]; omega
  · have h46 : ¬ n = 46 := by omega
    have h45 : ¬ n = 45 := by omega
    simp [h46, h45]; omega
  · have h46 : ¬ n = 46 := by omega
    have h45 : ¬ n = 45 := by omega
    simp [h46, h45]; omega

/-- The byte at place k, as a number; 0 past the end. -/
def at_ (s : ByteArray) (k : Nat) : Int := if h : k < s.size then ((s[k]).toNat : Int) else 0
theorem at_eq {s : ByteArray} {k : Nat} (h : k < s.size) : at_ s k = ((s[k]).toNat : Int) := by simp [at_, h]

/-- Is the byte ahead of place k a blank? -/
def prevB (s : ByteArray) : Nat → Bool
  | 0 => false
  | k + 1 => at_ s k == 32

/-- What the byte c adds. -/
def outOf (pb : Bool) (c : Int) : List Int := if c = 32 then (if pb then [] else [46]) else if keepB c then [c] else [95]

/-- What stands behind the first k bytes. -/
def outN (s : ByteArray) : Nat → List Int
  | 0 => []
  | k + 1 => outN s k ++ outOf (prevB s k) (at_ s k)

theorem outOf_le (pb : Bool) (c : Int) : (outOf pb c).length ≤ 1 := by
  unfold outOf
  split
  · split <;> simp
  · split <;> simp
theorem outN_le (s : ByteArray) : ∀ k, (outN s k).length ≤ k
  | 0 => by simp [outN]
  | k + 1 => by
    have h1 := outN_le s k
    have h2 := outOf_le (prevB s k) (at_ s k)
    simp only [outN, List.length_append]
    omega

theorem outN_blank2 {s : ByteArray} {k : Nat} (hc : at_ s k = 32) (hp : prevB s k = true) : outN s (k + 1) = outN s k := by simp [outN, outOf, hc, hp]
theorem outN_blank1 {s : ByteArray} {k : Nat} (hc : at_ s k = 32) (hp : prevB s k = false) : outN s (k + 1) = outN s k ++ [46] := by simp [outN, outOf, hc, hp]
theorem outN_keep {s : ByteArray} {k : Nat} (hc : ¬ at_ s k = 32) (hp : keepB (at_ s k) = true) : outN s (k + 1) = outN s k ++ [at_ s k] := by simp [outN, outOf, hc, hp]
theorem outN_drop {s : ByteArray} {k : Nat} (hc : ¬ at_ s k = 32) (hp : keepB (at_ s k) = false) : outN s (k + 1) = outN s k ++ [95] := by simp [outN, outOf, hc, hp]

theorem prevB_yes {s : ByteArray} {k : Nat} (hc : at_ s k = 32) : prevB s (k + 1) = true := by simp [prevB, hc]
theorem prevB_no {s : ByteArray} {k : Nat} (hc : ¬ at_ s k = 32) : prevB s (k + 1) = false := by simp [prevB, hc]

end Go.Proofs.Ybulkekhm
