import Derived.WalkKit
namespace Go.Proofs.Ybulkekgy
open Go.RowKit

/-- Is the byte n a decimal digit? -/
def digB (n : Int) : Bool := decide (48 ≤ n) && decide (n ≤ 57)

theorem digB_true {n : Int} (h1 : 48 ≤ n) (h2 : n ≤ 57) : digB n = true := by simp [digB, h1, h2]
theorem digB_lo {n : Int} (h1 : n < 48) : digB n = false := by simp [digB]; omega
theorem digB_hi {n : Int} (h1 : 57 < n) : digB n = false := by simp [digB]; omega
theorem digB_cases (n : Int) : (digB n = true ∧ 48 ≤ n ∧ n ≤ 57) ∨ (digB n = false ∧ n < 48) ∨ (digB n = false ∧ 57 < n) := by
  by_cases h1 : n < 48
  · exact .inr (.inl ⟨digB_lo h1, h1⟩)
  · by_cases h2 : 57 < n
    · exact .inr (.inr ⟨digB_hi h2, h2⟩)
    · exact .inl ⟨digB_true (by omega) (by omega), by omega, by omega⟩

/-- The byte at place k, as a number; -1 past the end. -/
def at_ (s : ByteArray) (k : Nat) : Int := if h : k < s.size then ((s[k]).toNat : Int) else -1

theorem at_eq {s : ByteArray} {k : Nat} (h : k < s.size) : at_ s k = ((s[k]).toNat : Int) := by simp [at_, h]
theorem at_out {s : ByteArray} {k : Nat} (h : ¬ k < s.size) : at_ s k = -1 := by simp [at_, h]

/-- How many digits stand from the list's head on. -/
def run_ : List UInt8 → Nat
  | [] => 0
  | c :: l => if digB (c.toNat : Int) then run_ l + 1 else 0

/-- The first place at or after k that holds no digit. -/
def skipN (s : ByteArray) (k : Nat) : Nat := k + run_ (s.data.toList.drop k)

theorem run_le : ∀ l : List UInt8, run_ l ≤ l.length
  | [] => by simp [run_]
  | c :: l => by
    have := run_le l
    simp only [run_, List.length_cons]
    split <;> omega

theorem skipN_ge (s : ByteArray) (k : Nat) : k ≤ skipN s k := by unfold skipN; omega
theorem skipN_le (s : ByteArray) (k : Nat) (h : k ≤ s.size) : skipN s k ≤ s.size := by
  have := run_le (s.data.toList.drop k)
  have e : s.data.toList.length = s.size := by simp
  simp only [List.length_drop, e] at this
  unfold skipN
  omega
theorem drop_at (s : ByteArray) (k : Nat) (h : k < s.size) : s.data.toList.drop k = s[k] :: s.data.toList.drop (k + 1) := by
  rw [List.drop_eq_getElem_cons (by simpa using h)]
  rfl
theorem skipN_yes (s : ByteArray) (k : Nat) (h : k < s.size) (hd : digB (at_ s k) = true) : skipN s k = skipN s (k + 1) := by
  rw [at_eq h] at hd
  unfold skipN
  rw [drop_at s k h]
  simp only [run_, hd, if_true]
  omega
theorem skipN_no (s : ByteArray) (k : Nat) (h : k < s.size) (hd : digB (at_ s k) = false) : skipN s k = k := by
  rw [at_eq h] at hd
  unfold skipN
  rw [drop_at s k h]
  simp [run_, hd]
theorem skipN_end (s : ByteArray) (k : Nat) (h : ¬ k < s.size) : skipN s k = k := by
  unfold skipN
  rw [List.drop_eq_nil_of_le (by simpa using h)]
  simp [run_]

end Go.Proofs.Ybulkekgy
namespace Go.Proofs.Ybulkekgy

/-- The end of a fraction that may begin at e. -/
def fracN (s : ByteArray) (e : Nat) : Nat := if e + 1 < s.size ∧ at_ s e = 46 ∧ digB (at_ s (e + 1)) = true then skipN s (e + 1) else e
/-- Past a sign that may stand at j. -/
def signN (s : ByteArray) (j : Nat) : Nat := if at_ s j = 43 ∨ at_ s j = 45 then j + 1 else j
/-- The end of an exponent that may begin at e. -/
def expN (s : ByteArray) (e : Nat) : Nat :=
  if at_ s e = 101 ∨ at_ s e = 69 then (if digB (at_ s (signN s (e + 1))) = true then skipN s (signN s (e + 1)) else e) else e
/-- The end of the numeric token at k. -/
def endN (s : ByteArray) (k : Nat) : Nat := expN s (fracN s (skipN s k))

theorem fracN_le (s : ByteArray) (e : Nat) (h : e ≤ s.size) : fracN s e ≤ s.size := by
  unfold fracN
  split
  · exact skipN_le s _ (by omega)
  · exact h
theorem fracN_ge (s : ByteArray) (e : Nat) : e ≤ fracN s e := by
  unfold fracN
  split
  · exact Nat.le_trans (Nat.le_succ e) (skipN_ge s _)
  · exact Nat.le_refl e
theorem at_lt {s : ByteArray} {k : Nat} (h : 0 ≤ at_ s k) : k < s.size := by
  by_cases hk : k < s.size
  · exact hk
  · rw [at_out hk] at h; omega
theorem digB_lt {s : ByteArray} {k : Nat} (h : digB (at_ s k) = true) : k < s.size := by
  rcases digB_cases (at_ s k) with ⟨_, h1, h2⟩ | ⟨h0, _⟩ | ⟨h0, _⟩
  · exact at_lt (by omega)
  · rw [h0] at h; cases h
  · rw [h0] at h; cases h
theorem expN_le (s : ByteArray) (e : Nat) (h : e ≤ s.size) : expN s e ≤ s.size := by
  unfold expN
  split
  · split
    · rename_i hd
      exact skipN_le s _ (Nat.le_of_lt (digB_lt hd))
    · exact h
  · exact h
theorem expN_ge (s : ByteArray) (e : Nat) : e ≤ expN s e := by
  unfold expN
  split
  · split
    · refine Nat.le_trans ?_ (skipN_ge s _)
      unfold signN
      split <;> omega
    · exact Nat.le_refl e
  · exact Nat.le_refl e
theorem endN_le (s : ByteArray) (k : Nat) (h : k ≤ s.size) : endN s k ≤ s.size := expN_le s _ (fracN_le s _ (skipN_le s k h))
theorem endN_ge (s : ByteArray) (k : Nat) : k ≤ endN s k := Nat.le_trans (skipN_ge s k) (Nat.le_trans (fracN_ge s _) (expN_ge s _))

end Go.Proofs.Ybulkekgy
namespace Go.Proofs.Ybulkekgy

/-- Does a fraction begin at e? -/
def fracB (s : ByteArray) (e : Nat) : Bool := decide (e + 1 < s.size) && (at_ s e == 46) && digB (at_ s (e + 1))
theorem fracN_eq (s : ByteArray) (e : Nat) : fracN s e = if fracB s e = true then skipN s (e + 1) else e := by
  unfold fracN fracB
  by_cases h : e + 1 < s.size ∧ at_ s e = 46 ∧ digB (at_ s (e + 1)) = true
  · rw [if_pos h, if_pos (by simp [h.1, h.2.1, h.2.2])]
  · rw [if_neg h, if_neg (by simpa [and_assoc] using h)]
theorem fracB_dig {s : ByteArray} {e : Nat} (h1 : e + 1 < s.size) (h2 : ((s[e]).toNat : Int) = 46) : fracB s e = digB ((s[e + 1]).toNat : Int) := by
  unfold fracB
  rw [at_eq (show e < s.size by omega), at_eq h1]
  simp [h1, h2]
theorem fracB_no2 {s : ByteArray} {e : Nat} (h1 : e < s.size) (h2 : ¬ ((s[e]).toNat : Int) = 46) : fracB s e = false := by
  unfold fracB
  rw [at_eq h1]
  simp [h2]
theorem fracB_no1 {s : ByteArray} {e : Nat} (h1 : ¬ e + 1 < s.size) : fracB s e = false := by simp [fracB, h1]
theorem fracB_lt {s : ByteArray} {e : Nat} (h : fracB s e = true) : e + 1 < s.size := by
  by_cases h1 : e + 1 < s.size
  · exact h1
  · rw [fracB_no1 h1] at h; cases h
end Go.Proofs.Ybulkekgy
namespace Go.Proofs.Ybulkekgy

/-- Does an exponent's letter stand at e? -/
def expB (s : ByteArray) (e : Nat) : Bool := (at_ s e == 101) || (at_ s e == 69)
/-- Does a sign stand at j? -/
def sgnB (s : ByteArray) (j : Nat) : Bool := (at_ s j == 43) || (at_ s j == 45)

theorem or32_all : ∀ n : Fin 256, (bits BinOp.or IntKind.u8 ((n.val : Nat) : Int) 32 == 101) = ((((n.val : Nat) : Int) == 101) || (((n.val : Nat) : Int) == 69)) := by decide +kernel
theorem or32 (c : UInt8) : (bits BinOp.or IntKind.u8 (c.toNat : Int) 32 == 101) = (((c.toNat : Int) == 101) || ((c.toNat : Int) == 69)) :=
  or32_all ⟨c.toNat, c.toNat_lt⟩
theorem expB_in {s : ByteArray} {e : Nat} (h : e < s.size) : expB s e = ((((s[e]).toNat : Int) == 101) || (((s[e]).toNat : Int) == 69)) := by simp [expB, at_eq h]
theorem expB_out {s : ByteArray} {e : Nat} (h : ¬ e < s.size) : expB s e = false := by simp [expB, at_out h]
theorem expB_lt {s : ByteArray} {e : Nat} (h : expB s e = true) : e < s.size := by
  by_cases h1 : e < s.size
  · exact h1
  · rw [expB_out h1] at h; cases h
theorem sgnB_in {s : ByteArray} {e : Nat} (h : e < s.size) : sgnB s e = ((((s[e]).toNat : Int) == 43) || (((s[e]).toNat : Int) == 45)) := by simp [sgnB, at_eq h]
theorem sgnB_out {s : ByteArray} {e : Nat} (h : ¬ e < s.size) : sgnB s e = false := by simp [sgnB, at_out h]
theorem sgnB_lt {s : ByteArray} {e : Nat} (h : sgnB s e = true) : e < s.size := by
  by_cases h1 : e < s.size
  · exact h1
  · rw [sgnB_out h1] at h; cases h
theorem digB_out {s : ByteArray} {e : Nat} (h : ¬ e < s.size) : digB (at_ s e) = false := by simp [at_out h, digB]
theorem signN_eq (s : ByteArray) (j : Nat) : signN s j = if sgnB s j = true then j + 1 else j := by
  unfold signN sgnB
  simp
theorem expN_eq (s : ByteArray) (e : Nat) : expN s e = if expB s e = true then (if digB (at_ s (signN s (e + 1))) = true then skipN s (signN s (e + 1)) else e) else e := by
  unfold expN expB
  simp
theorem signN_le {s : ByteArray} {j : Nat} (h : j ≤ s.size) : signN s j ≤ s.size := by
  rw [signN_eq]
  split
  · rename_i hs
    exact sgnB_lt hs
  · exact h
end Go.Proofs.Ybulkekgy
