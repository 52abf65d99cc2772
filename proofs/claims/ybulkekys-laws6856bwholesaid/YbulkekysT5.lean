import Derived.Test.YbulkekysSlots
namespace Go.Proofs.Ybulkekys
open Go.RowKit

set_option maxHeartbeats 8000000 in
set_option maxRecDepth 1000000 in
theorem ph32 (Q : Exit → Act → World → Prop) (w : World) (n : Nat) (gO : Nat) (gOc : Nat) (mm : Nat) (gE : Nat) (gEc : Nat) (cEc : Nat) (gB : Nat) (gI : Nat) (gA : Nat) (gL : Nat) (gK : Nat) (gV : Nat) (lv : Nat) (gVc : Nat) (cVc : Nat) (gBc : Nat) (cBc : Nat) (gP : Nat) (FL : Nat) (gN : Nat) (gC : Nat)
    (a : Act) (hS : S32 a n gO gOc mm gE gEc cEc gB gI gA gL gK gV lv gVc cVc gBc cBc gP FL gN gC)
    (next : ∀ a' w' bd vs, S32 a' n gO gOc mm gE gEc cEc gB gI gA gL gK gV lv gVc cVc gBc cBc gP FL gN gC → a'.tmps.getD 59 undef = .pointer (some ⟨bd, 0, none⟩) → bd = w.heap.size → Below w.heap.size w w' → Box w' bd 61 vs → vs[7]? = some (.slice (some ⟨gO, 0, none⟩) n n) → vs[10]? = some (.slice (some ⟨gE, 0, none⟩) n n) → vs[15]? = some (.slice (some ⟨gB, 0, none⟩) mm mm) → vs[16]? = some (.slice (some ⟨gI, 0, none⟩) mm mm) → vs[17]? = some (.slice (some ⟨gA, 0, none⟩) mm mm) → Code.wp Yba.prog (dropSeq 33 (Yba.f4.body.getD .skip)) Q a' w') :
    Code.wp Yba.prog (dropSeq 32 (Yba.f4.body.getD .skip)) Q a w := by
  have Hn : Hid _ := next
  clear next
  obtain ⟨xf, hxa, hxf⟩ := fr_of a hS.sz hS.df
  have hq18 := (hxf 18).symm.trans hS.s18
  have hq19 := (hxf 19).symm.trans hS.s19
  have hq20 := (hxf 20).symm.trans hS.s20
  have hq26 := (hxf 26).symm.trans hS.s26
  have hq27 := (hxf 27).symm.trans hS.s27
  have hq29 := (hxf 29).symm.trans hS.s29
  have hq30 := (hxf 30).symm.trans hS.s30
  have hq31 := (hxf 31).symm.trans hS.s31
  have hq32 := (hxf 32).symm.trans hS.s32
  have hq33 := (hxf 33).symm.trans hS.s33
  have hq34 := (hxf 34).symm.trans hS.s34
  have hq39 := (hxf 39).symm.trans hS.s39
  have hq42 := (hxf 42).symm.trans hS.s42
  have hq43 := (hxf 43).symm.trans hS.s43
  have hq44 := (hxf 44).symm.trans hS.s44
  have hq52 := (hxf 52).symm.trans hS.s52
  have hq54 := (hxf 54).symm.trans hS.s54
  have hq55 := (hxf 55).symm.trans hS.s55
  subst hxa
  conv => arg 4; simp only [fr, hq18, hq19, hq20, hq26, hq27, hq29, hq30, hq31, hq32, hq33, hq34, hq39, hq42, hq43, hq44, hq52, hq54, hq55]
  clear hxf hS  hq18 hq19 hq20 hq26 hq27 hq29 hq30 hq31 hq32 hq33 hq34 hq39 hq42 hq43 hq44 hq52 hq54 hq55
  conv => arg 2; whnf
  refine wp_seq_k (fun K1 hK1 => ?_)
  have HK1 : Hid _ := hK1
  clear hK1
  go_wp2_with fail
  refine HK1.out _ _ ?_
  clear HK1 K1
  exact Hn.out _ _ _ _ ⟨rfl, rfl, rfl, rfl, rfl, rfl, rfl, rfl, rfl, rfl, rfl, rfl, rfl, rfl, rfl, rfl, rfl, rfl, rfl, rfl⟩ rfl rfl ((Below.refl _ _).alloc (Nat.le_refl _) _) (heap_alloc_new w _) rfl rfl rfl rfl rfl
end Go.Proofs.Ybulkekys
