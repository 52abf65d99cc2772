import Derived.Test.YbulkeklgChecked
import Derived.WalkKit
namespace Go.Proofs.Ybulkeklg
open Go.RowKit

/-- A slice of integers that came in, as far as the law reads it; it lies below block B. -/
def IntsAt (k : IntKind) (B : Nat) (w : World) (a : Option Addr) (len : Nat) (zs : List Int) : Prop :=
  ∀ j, j < len → ∃ b off, a = some ⟨b, off, none⟩ ∧ b < B ∧ w.cell? ⟨b, off + j, none⟩ = some (.int k (zs.getD j 0))
/-- A slice of strings that came in. -/
def StrsAt (B : Nat) (w : World) (a : Option Addr) (len : Nat) (ss : List ByteArray) : Prop :=
  ∀ j, j < len → ∃ b off, a = some ⟨b, off, none⟩ ∧ b < B ∧ w.cell? ⟨b, off + j, none⟩ = some (.string (ss.getD j ByteArray.empty))

theorem IntsAt.below {k : IntKind} {B : Nat} {w w' : World} {a : Option Addr} {len : Nat} {zs : List Int} (h : IntsAt k B w a len zs) (hb : Below B w w') : IntsAt k B w' a len zs := fun j hj => by
  obtain ⟨b, off, h1, h2, h3⟩ := h j hj
  exact ⟨b, off, h1, h2, (hb.cell (p := ⟨b, off + j, none⟩) h2).trans h3⟩
theorem StrsAt.below {B : Nat} {w w' : World} {a : Option Addr} {len : Nat} {zs : List ByteArray} (h : StrsAt B w a len zs) (hb : Below B w w') : StrsAt B w' a len zs := fun j hj => by
  obtain ⟨b, off, h1, h2, h3⟩ := h j hj
  exact ⟨b, off, h1, h2, (hb.cell (p := ⟨b, off + j, none⟩) h2).trans h3⟩

/-- The i-th of a list that goes round and round; 0 where it is empty. -/
def rnd (zs : List Int) (len i : Nat) : Int := if len = 0 then 0 else zs.getD (i % len) 0

set_option maxHeartbeats 400000 in
theorem amount_any (a : Option Addr) (len cap : Nat) (zs : List Int) (B : Nat) (i : Nat) (w : World) (hl : len ≤ maxLen) (hi : i ≤ 1048576) (h : IntsAt .i64 B w a len zs) :
    Calls Yba.prog 7 #[.slice a len cap, .int .i64 (i : Int)] w fun e w' => e = .returned (.int .i64 (rnd zs len i)) ∧ w' = w := by
  unfold maxLen at hl
  by_cases h0 : len = 0
  · have HR : Hid (rnd zs len i = 0) := by unfold rnd; exact if_pos h0
    have e0 : ((len : Int) == 0) = true := by simp [h0]
    go_enter Yba.func7, Yba.ntmps7
    go_wp2
    go_ret
    exact ⟨by rw [HR.out]; rfl, rfl⟩
  · have HR : Hid (rnd zs len i = zs.getD (i % len) 0) := by unfold rnd; exact if_neg h0
    have hm : i % len < len := Nat.mod_lt _ (by omega)
    obtain ⟨b, off, rfl, hb, hc⟩ := h (i % len) hm
    have hidx : (i : Int) % (len : Int) = ((i % len : Nat) : Int) := by simp
    have e0 : ((len : Int) == 0) = false := by simp [h0]
    generalize i % len = j at *
    generalize zs.getD j 0 = x at *
    go_enter Yba.func7, Yba.ntmps7
    go_wp2
    go_ret
    exact ⟨by rw [HR.out]; rfl, rfl⟩

set_option maxHeartbeats 400000 in
theorem flag_any (a : Option Addr) (len cap : Nat) (zs : List Int) (B : Nat) (i : Nat) (w : World) (hl : len ≤ maxLen) (hi : i ≤ 1048576) (h : IntsAt .u8 B w a len zs) :
    Calls Yba.prog 11 #[.slice a len cap, .int .i64 (i : Int)] w fun e w' => e = .returned (.int .u8 (rnd zs len i)) ∧ w' = w := by
  unfold maxLen at hl
  by_cases h0 : len = 0
  · have HR : Hid (rnd zs len i = 0) := by unfold rnd; exact if_pos h0
    have e0 : ((len : Int) == 0) = true := by simp [h0]
    go_enter Yba.func11, Yba.ntmps11
    go_wp2
    go_ret
    exact ⟨by rw [HR.out]; rfl, rfl⟩
  · have HR : Hid (rnd zs len i = zs.getD (i % len) 0) := by unfold rnd; exact if_neg h0
    have hm : i % len < len := Nat.mod_lt _ (by omega)
    obtain ⟨b, off, rfl, hb, hc⟩ := h (i % len) hm
    have hidx : (i : Int) % (len : Int) = ((i % len : Nat) : Int) := by simp
    have e0 : ((len : Int) == 0) = false := by simp [h0]
    generalize i % len = j at *
    generalize zs.getD j 0 = x at *
    go_enter Yba.func11, Yba.ntmps11
    go_wp2
    go_ret
    exact ⟨by rw [HR.out]; rfl, rfl⟩
end Go.Proofs.Ybulkeklg
