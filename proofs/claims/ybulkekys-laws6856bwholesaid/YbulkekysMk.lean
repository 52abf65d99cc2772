import Derived.Test.YbulkekysLibI
import Derived.Test.YbulkekysDet
import Derived.Deep.Cut
import Derived.Deep.DeepCutAuto
namespace Go.Proofs.Ybulkekys
open Go.RowKit

theorem info4 : (Yba.prog.info? 4).map (fun i => (i.zero, i.size, i.bytes)) = some (some (.bool false), 1, 1) := by kernel_rfl
theorem info33 : (Yba.prog.info? 33).map (fun i => (i.zero, i.size, i.bytes)) = some (some (.slice none 0 0), 1, 24) := by kernel_rfl
theorem info37 : (Yba.prog.info? 37).map (fun i => (i.zero, i.size, i.bytes)) = some (some (.slice none 0 0), 1, 24) := by kernel_rfl
theorem info39 : (Yba.prog.info? 39).map (fun i => (i.zero, i.size, i.bytes)) = some (some (.agg #[.int .i64 0, .int .i64 0]), 2, 16) := by kernel_rfl

/-- The length that a cell's slice has. -/
def slen : Option Value → Nat
  | some (.slice _ n _) => n
  | _ => 0

set_option maxHeartbeats 2000000 in
set_option maxRecDepth 100000 in
theorem mark_any (F : Nat → Prop) (n : Nat) (O : Nat → List Nat) (E : Nat → Bool) (R : Nat → Value) (bd v : Nat) (s : DS) (w : World) (hv : v < 5000) (hL : s.L ≤ 5000) (hD : Det F n O E R w bd s) :
    Calls Yba.prog 18 #[.pointer (some ⟨bd, 0, none⟩), .int .i64 (v : Int)] w fun e w' => e = .returned (.tuple #[]) ∧ Det F n O E R w' bd (s.mark v) ∧ Keep F w w' := by
  obtain ⟨i4, hi4, hz40, hz41, hz42⟩ := info_parts info4
  obtain ⟨i33, hi33, hz330, hz331, hz332⟩ := info_parts info33
  obtain ⟨i37, hi37, hz370, hz371, hz372⟩ := info_parts info37
  have hFlt : ∀ k, F k → k < w.heap.size := by obtain ⟨m, h, _⟩ := hD; exact h.Flt
  go_enter Yba.func18, Yba.ntmps18
  go_wp2_with fail
  go_loopw [10] (fun _ wr => ∃ k, s.L ≤ k ∧ k ≤ max s.L (v + 1) ∧ Det F n O E R wr bd { s with L := k } ∧ Keep F w wr) (fun _ wr => v + 1 - slen (wr.cell? ⟨bd, 15, none⟩))
  case atStart => exact ⟨s.L, Nat.le_refl _, by omega, hD, Keep.refl _ _⟩
  case round =>
    clear hD
    obtain ⟨k, hk1, hk2, ⟨m, hX, hR0, hB, hI, hA⟩, hK⟩ := hrel
    have HR : Hid (m.rowV = R) := hR0
    clear hR0
    have hbd : m.lB ≤ 6000 ∧ m.lI ≤ 6000 ∧ m.lA ≤ 6000 := by simp only at hB hI hA; omega
    obtain ⟨hb1, hb2, hb3⟩ := hbd
    have HL : Hid (m.lB = k ∧ m.lI = k ∧ m.lA = k) := ⟨hB, hI, hA⟩
    clear hB hI hA
    have hFr := hK.lt hFlt
    have c1 := hX.cB
    by_cases hlt : m.lB ≤ v
    · have ha := hX.bg
      have HM : Hid (slen (wr.cell? ⟨bd, 15, none⟩) = m.lB) := by rw [c1]; rfl
      go_wp2_with (at_builtin; refine wpList_append_arr rfl (.tmp 15) (.tmp 16) 24 rfl 4 i4 (.bool false) 1 Yba.underlying24 hi4 hz40 hz41 hz42 rfl m.gB m.lB m.cB _ rfl ha rfl rfl ?c1 ?c2 ?_)
      case c1 => unfold maxLen; omega
      case c2 => omega
      intro g1 p1 w1 ha1 hg1 hn1
      have hbx1 := hX.box.blk (hg1.block bd hX.box.lt (fun e => hX.nbB (Option.some.inj e)))
      obtain ⟨old1, hold1⟩ : ∃ old, w1.cell? ⟨bd, 15, none⟩ = some old := ⟨_, (hbx1.cell 15).trans hX.c15⟩
      have hfr1 := hbx1.fr 15
      have hX1 := hX.pushB ha1 hg1 hn1
      have hK1 := (hK.grown hFlt hg1 (fun k hk => by cases hk; exact hX.FB)).set bd 15 (.slice (some ⟨g1, 0, none⟩) (m.lB + 1) p1) hX.Fbd
      clear ha1 hg1 hn1 ha c1 hX hK
      go_upto_region 2 with (fail)
      clear hold1 hfr1 hbx1
      generalize w1.setCell ⟨bd, 15, none⟩ (.slice (some ⟨g1, 0, none⟩) (m.lB + 1) p1) = w2 at *
      obtain ⟨m1, hm⟩ : ∃ mx : Mem, mx = { m with vs := m.vs.setIfInBounds 15 (.slice (some ⟨g1, 0, none⟩) (m.lB + 1) p1), gB := g1, cB := p1, lB := m.lB + 1 } := ⟨_, rfl⟩
      have Hm1 : Hid (m1 = { m with vs := m.vs.setIfInBounds 15 (.slice (some ⟨g1, 0, none⟩) (m.lB + 1) p1), gB := g1, cB := p1, lB := m.lB + 1 }) := hm
      clear hm
      rw [← Hm1.out] at hX1
      have hbI : m1.lI ≤ 6000 := by rw [Hm1.out]; exact hb2
      have c1 := hX1.cI
      have ha := hX1.inn
      go_wp2_with (at_builtin; refine wpList_append_arr rfl (.tmp 24) (.tmp 25) 36 rfl 37 i37 (.slice none 0 0) 24 Yba.underlying36 hi37 hz370 hz371 hz372 rfl m1.gI m1.lI m1.cI _ rfl ha rfl rfl ?c1 ?c2 ?_)
      case c1 => unfold maxLen; omega
      case c2 => omega
      intro g2 p2 w3 ha1 hg1 hn1
      have hbx1 := hX1.box.blk (hg1.block bd hX1.box.lt (fun e => hX1.nbI (Option.some.inj e)))
      obtain ⟨old1, hold1⟩ : ∃ old, w3.cell? ⟨bd, 16, none⟩ = some old := ⟨_, (hbx1.cell 16).trans hX1.c16⟩
      have hfr1 := hbx1.fr 16
      have hX2 := hX1.pushI ha1 hg1 hn1
      have hK2 := (hK1.grown hFlt hg1 (fun k hk => by cases hk; exact hX1.FI)).set bd 16 (.slice (some ⟨g2, 0, none⟩) (m1.lI + 1) p2) hX1.Fbd
      clear ha1 hg1 hn1 ha c1 hX1 hK1
      go_upto_region 3 with (fail)
      clear hold1 hfr1 hbx1
      generalize w3.setCell ⟨bd, 16, none⟩ (.slice (some ⟨g2, 0, none⟩) (m1.lI + 1) p2) = w4 at *
      obtain ⟨m2, hm⟩ : ∃ mx : Mem, mx = { m1 with vs := m1.vs.setIfInBounds 16 (.slice (some ⟨g2, 0, none⟩) (m1.lI + 1) p2), gI := g2, cI := p2, lI := m1.lI + 1, inV := upd m1.inV m1.lI (.slice none 0 0) } := ⟨_, rfl⟩
      have Hm2 : Hid (m2 = { m1 with vs := m1.vs.setIfInBounds 16 (.slice (some ⟨g2, 0, none⟩) (m1.lI + 1) p2), gI := g2, cI := p2, lI := m1.lI + 1, inV := upd m1.inV m1.lI (.slice none 0 0) }) := hm
      clear hm
      rw [← Hm2.out] at hX2
      have hbA : m2.lA ≤ 6000 := by rw [Hm2.out]; show m1.lA ≤ _; rw [Hm1.out]; exact hb3
      have c1 := hX2.cA
      have ha := hX2.at_
      go_wp2_with (at_builtin; refine wpList_append_arr rfl (.tmp 33) (.tmp 34) 32 rfl 33 i33 (.slice none 0 0) 24 Yba.underlying32 hi33 hz330 hz331 hz332 rfl m2.gA m2.lA m2.cA _ rfl ha rfl rfl ?c1 ?c2 ?_)
      case c1 => unfold maxLen; omega
      case c2 => omega
      intro g3 p3 w5 ha1 hg1 hn1
      have hbx1 := hX2.box.blk (hg1.block bd hX2.box.lt (fun e => hX2.nbA (Option.some.inj e)))
      obtain ⟨old1, hold1⟩ : ∃ old, w5.cell? ⟨bd, 17, none⟩ = some old := ⟨_, (hbx1.cell 17).trans hX2.c17⟩
      have hfr1 := hbx1.fr 17
      have hX3 := hX2.pushA ha1 hg1 hn1
      have hK3 := (hK2.grown hFlt hg1 (fun k hk => by cases hk; exact hX2.FA)).set bd 17 (.slice (some ⟨g3, 0, none⟩) (m2.lA + 1) p3) hX2.Fbd
      clear ha1 hg1 hn1 ha c1 hX2 hK2
      go_wp2_with fail
      clear hold1 hfr1 hbx1
      generalize w5.setCell ⟨bd, 17, none⟩ (.slice (some ⟨g3, 0, none⟩) (m2.lA + 1) p3) = w6 at *
      have c3 := hX3.cB
      have hl := HL.out
      simp only at c3
      have h1 : m2.lB = m.lB + 1 := by rw [Hm2.out]; show m1.lB = _; rw [Hm1.out]
      have h2 : m2.lI = m.lI + 1 := by rw [Hm2.out]; show m1.lI + 1 = _; rw [Hm1.out]
      have h3 : m2.lA = m.lA := by rw [Hm2.out]; show m1.lA = _; rw [Hm1.out]
      go_roundw
      case rel => exact ⟨k + 1, by omega, by omega, ⟨_, hX3.relen (k + 1), (show m2.rowV = R by rw [Hm2.out]; show m1.rowV = R; rw [Hm1.out]; exact HR.out), by simp only; omega, by simp only; omega, by simp only; omega⟩, hK3⟩
      case measure =>
        rw [HM.out, c3]
        show v + 1 - m2.lB < _
        omega
    · have hl := HL.out
      have c2 := hX.bg.mr v (by omega)
      have f2 := hX.bg.fr v
      have hX' := hX.setB v (by omega) (max s.L (v + 1))
      have hK' := hK.set m.gB v (.bool true) hX.FB
      have HS : Hid (k = max s.L (v + 1)) := by show k = _; omega
      clear hl
      go_wp2
      go_end0
      have hl := HL.out
      have hs := HS.out
      exact ⟨rfl, ⟨m, hX', HR.out, by show m.lB = max s.L (v + 1); omega, by show m.lI = max s.L (v + 1); omega, by show m.lA = max s.L (v + 1); omega⟩, hK'⟩

set_option maxHeartbeats 2000000 in
set_option maxRecDepth 100000 in
theorem marked_any (F : Nat → Prop) (n : Nat) (O : Nat → List Nat) (E : Nat → Bool) (R : Nat → Value) (bd v : Nat) (s : DS) (w : World) (hL : s.L ≤ 5000) (hD : Det F n O E R w bd s) :
    Calls Yba.prog 19 #[.pointer (some ⟨bd, 0, none⟩), .int .i64 (v : Int)] w fun e w' => e = .returned (.bool (s.bg v)) ∧ w' = w := by
  obtain ⟨m, hX, _, hB, _, _⟩ := hD
  have hb : m.lB ≤ 5000 := by omega
  clear hB
  have c1 := hX.cB
  by_cases h : v < m.lB
  · have c2 := hX.bg.mr v h
    go_enter Yba.func19, Yba.ntmps19
    go_wp2
    go_ret
    exact ⟨rfl, rfl⟩
  · have e0 : s.bg v = false := hX.offB v (by omega)
    go_enter Yba.func19, Yba.ntmps19
    go_wp2
    go_ret
    simp [e0]
end Go.Proofs.Ybulkekys
