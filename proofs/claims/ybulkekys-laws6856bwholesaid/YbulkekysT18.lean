import Derived.Test.YbulkekysT1b
namespace Go.Proofs.Ybulkekys
open Go.RowKit

set_option maxHeartbeats 8000000 in
set_option maxRecDepth 1000000 in
theorem x18 (Q : Exit → Act → World → Prop) (B1 b1 : Nat) (w0 w : World) (x1 : Option Addr) (l1 : Nat) (c1 : Nat) (x3 : Option Addr) (l3 : Nat) (c3 : Nat) (x4 : Option Addr) (l4 : Nat) (c4 : Nat) (x5 : Option Addr) (l5 : Nat) (c5 : Nat) (n : Nat) (gO : Nat) (gOc : Nat) (mm : Nat) (gE : Nat) (gEc : Nat) (cEc : Nat) (gB : Nat) (gI : Nat) (gA : Nat) (gL : Nat) (gK : Nat) (bg0 li mk lk : Nat → Bool) (il ir : Nat → Nat) (inV atV : Nat → Value) (i : Nat) (hi : i < mm) (hmm : mm ≤ n) (hir : ∀ i, ir i ≤ 255)
    (hrd1 : ∀ w', Below B1 w0 w' → RdB w' x1 l1 mk) (hrd3 : ∀ w', Below B1 w0 w' → RdB w' x3 l3 lk) (hrd4 : ∀ w', Below B1 w0 w' → RdN w' .u8 x4 l4 ir)
    (hbg : bg0 i = (decide (i < l1) && mk i)) (hil : il i = if i < l4 then ir i % 4 else 0) (hli : li i = (decide (i < l3) && lk i))
    (h : M18 B1 b1 w0 w n mm gB gI gA gL gK i i i bg0 li il inV atV)
    (a : Act) (h35 : a.tmps.getD 35 undef = .int .i64 (i : Int)) (hS : S18 a x1 l1 c1 x3 l3 c3 x4 l4 c4 x5 l5 c5 n gO gOc mm gE gEc cEc gB gI gA gL gK)
    (hK : ∀ a' w' inV' atV', a'.tmps.getD 35 undef = .int .i64 (i : Int) → S18 a' x1 l1 c1 x3 l3 c3 x4 l4 c4 x5 l5 c5 n gO gOc mm gE gEc cEc gB gI gA gL gK → M18 B1 b1 w0 w' n mm gB gI gA gL gK (i + 1) (i + 1) (i + 1) bg0 li il inV' atV' → Q .normal a' w') :
    Code.wp Yba.prog (inC (fstC (sndC (inC (inC (sndC (fstC (dropSeq 18 (Yba.f4.body.getD .skip))))))))) Q a w := by
  have HY : Hid (∀ a', a'.tmps.getD 35 undef = .int .i64 (i : Int) → S18 a' x1 l1 c1 x3 l3 c3 x4 l4 c4 x5 l5 c5 n gO gOc mm gE gEc cEc gB gI gA gL gK → Code.wp Yba.prog (sndC (inC (fstC (sndC (inC (inC (sndC (fstC (dropSeq 18 (Yba.f4.body.getD .skip)))))))))) Q a' (w.setCell ⟨gB, i, none⟩ (.bool (bg0 i)))) := by
    intro a' h35' hS'
    have hM := h.setB
    clear h hS h35
    conv => arg 2; whnf
    refine wp_seq_k (fun K2 hK2 => ?_)
    refine z18 _ B1 b1 w0 _ x1 l1 c1 x3 l3 c3 x4 l4 c4 x5 l5 c5 n gO gOc mm gE gEc cEc gB gI gA gL gK bg0 li il ir inV atV i (i + 1) i hi hmm hir hrd4 hil hM a' h35' hS' (fun a2 w2 inV2 h2 hS2 hM2 => hK2 _ _ ?_)
    exact v18 _ B1 b1 w0 _ x1 l1 c1 x3 l3 c3 x4 l4 c4 x5 l5 c5 n gO gOc mm gE gEc cEc gB gI gA gL gK bg0 li lk il inV2 atV i (i + 1) (i + 1) hi hmm hrd3 hli hM2 a2 h2 hS2 (fun a3 w3 atV3 h3 hS3 hM3 => hK a3 w3 inV2 atV3 h3 hS3 hM3)
  clear hK hrd3 hrd4 hil hli hir
  have b1' : (0 : Int) ≤ (i : Int) := Int.natCast_nonneg _
  have b2' : (i : Int) < (mm : Int) := by omega
  have cB := h.aB.mr i hi
  have fB := h.aB.fr i
  by_cases hlt : i < l1
  · obtain ⟨b, off, rfl, hbl, cX⟩ := hrd1 w h.hB i hlt
    simp only [hlt, decide_true, Bool.true_and] at hbg
    rw [hbg] at HY
    have b4' : (i : Int) < (l1 : Int) := by omega
    generalize mk i = v at *
    clear h hrd1
    obtain ⟨xf, hxa, hxf⟩ := fr_of a hS.sz hS.df
    have hq1 := (hxf 1).symm.trans hS.s1
    have hq3 := (hxf 3).symm.trans hS.s3
    have hq4 := (hxf 4).symm.trans hS.s4
    have hq5 := (hxf 5).symm.trans hS.s5
    have hq18 := (hxf 18).symm.trans hS.s18
    have hq19 := (hxf 19).symm.trans hS.s19
    have hq20 := (hxf 20).symm.trans hS.s20
    have hq26 := (hxf 26).symm.trans hS.s26
    have hq27 := (hxf 27).symm.trans hS.s27
    have hq29 := (hxf 29).symm.trans hS.s29
    have hq30 := (hxf 30).symm.trans hS.s30
    have hq31 := (hxf 31).symm.trans hS.s31
    have hq32 := (hxf 32).symm.trans hS.s32
    have hq33 := (hxf 33).symm.trans hS.s33
    have hq34 := (hxf 34).symm.trans hS.s34
    have hq35 := (hxf 35).symm.trans h35
    subst hxa
    conv => arg 4; simp only [fr, hq1, hq3, hq4, hq5, hq18, hq19, hq20, hq26, hq27, hq29, hq30, hq31, hq32, hq33, hq34, hq35]
    clear hxf hS h35 hq1 hq3 hq4 hq5 hq18 hq19 hq20 hq26 hq27 hq29 hq30 hq31 hq32 hq33 hq34 hq35
    conv => arg 2; whnf
    refine wp_seq_k (fun K1 hK1 => ?_)
    have HK1 : Hid _ := hK1
    clear hK1
    go_wp2_with fail
    exact HK1.out _ _ (HY.out _ rfl ⟨rfl, rfl, rfl, rfl, rfl, rfl, rfl, rfl, rfl, rfl, rfl, rfl, rfl, rfl, rfl, rfl, rfl⟩)
  · simp only [hlt, decide_false, Bool.false_and] at hbg
    rw [hbg] at HY
    have b4' : decide ((i : Int) < (l1 : Int)) = false := by simp; omega
    clear h hrd1
    obtain ⟨xf, hxa, hxf⟩ := fr_of a hS.sz hS.df
    have hq1 := (hxf 1).symm.trans hS.s1
    have hq3 := (hxf 3).symm.trans hS.s3
    have hq4 := (hxf 4).symm.trans hS.s4
    have hq5 := (hxf 5).symm.trans hS.s5
    have hq18 := (hxf 18).symm.trans hS.s18
    have hq19 := (hxf 19).symm.trans hS.s19
    have hq20 := (hxf 20).symm.trans hS.s20
    have hq26 := (hxf 26).symm.trans hS.s26
    have hq27 := (hxf 27).symm.trans hS.s27
    have hq29 := (hxf 29).symm.trans hS.s29
    have hq30 := (hxf 30).symm.trans hS.s30
    have hq31 := (hxf 31).symm.trans hS.s31
    have hq32 := (hxf 32).symm.trans hS.s32
    have hq33 := (hxf 33).symm.trans hS.s33
    have hq34 := (hxf 34).symm.trans hS.s34
    have hq35 := (hxf 35).symm.trans h35
    subst hxa
    conv => arg 4; simp only [fr, hq1, hq3, hq4, hq5, hq18, hq19, hq20, hq26, hq27, hq29, hq30, hq31, hq32, hq33, hq34, hq35]
    clear hxf hS h35 hq1 hq3 hq4 hq5 hq18 hq19 hq20 hq26 hq27 hq29 hq30 hq31 hq32 hq33 hq34 hq35
    conv => arg 2; whnf
    refine wp_seq_k (fun K1 hK1 => ?_)
    have HK1 : Hid _ := hK1
    clear hK1
    go_wp2_with fail
    exact HK1.out _ _ (HY.out _ rfl ⟨rfl, rfl, rfl, rfl, rfl, rfl, rfl, rfl, rfl, rfl, rfl, rfl, rfl, rfl, rfl, rfl, rfl⟩)

set_option maxHeartbeats 8000000 in
set_option maxRecDepth 1000000 in
theorem ph18 (Q : Exit → Act → World → Prop) (B1 b1 : Nat) (w0 w : World) (x1 : Option Addr) (l1 : Nat) (c1 : Nat) (x3 : Option Addr) (l3 : Nat) (c3 : Nat) (x4 : Option Addr) (l4 : Nat) (c4 : Nat) (x5 : Option Addr) (l5 : Nat) (c5 : Nat) (n : Nat) (gO : Nat) (gOc : Nat) (mm : Nat) (gE : Nat) (gEc : Nat) (cEc : Nat) (gB : Nat) (gI : Nat) (gA : Nat) (gL : Nat) (gK : Nat) (bg0 li mk lk : Nat → Bool) (il ir : Nat → Nat) (hmm : mm ≤ n) (hn : n ≤ 4097) (hir : ∀ i, ir i ≤ 255)
    (hrd1 : ∀ w', Below B1 w0 w' → RdB w' x1 l1 mk) (hrd3 : ∀ w', Below B1 w0 w' → RdB w' x3 l3 lk) (hrd4 : ∀ w', Below B1 w0 w' → RdN w' .u8 x4 l4 ir)
    (hbg : ∀ i, i < mm → bg0 i = (decide (i < l1) && mk i)) (hil : ∀ i, i < mm → il i = if i < l4 then ir i % 4 else 0) (hli : ∀ i, i < mm → li i = (decide (i < l3) && lk i))
    (h : M18 B1 b1 w0 w n mm gB gI gA gL gK 0 0 0 bg0 li il (fun _ => .slice none 0 0) (fun _ => .slice none 0 0))
    (a : Act) (hS : S18 a x1 l1 c1 x3 l3 c3 x4 l4 c4 x5 l5 c5 n gO gOc mm gE gEc cEc gB gI gA gL gK)
    (next : ∀ a' w' inV atV, S19 a' x5 l5 c5 n gO gOc mm gE gEc cEc gB gI gA gL gK → M18 B1 b1 w0 w' n mm gB gI gA gL gK mm mm mm bg0 li il inV atV → Code.wp Yba.prog (dropSeq 19 (Yba.f4.body.getD .skip)) Q a' w') :
    Code.wp Yba.prog (dropSeq 18 (Yba.f4.body.getD .skip)) Q a w := by
  have Hn : Hid _ := next
  have Hx : Hid _ := fun (Q : Exit → Act → World → Prop) (w : World) (inV atV : Nat → Value) (i : Nat) (hi : i < mm) => x18 Q B1 b1 w0 w x1 l1 c1 x3 l3 c3 x4 l4 c4 x5 l5 c5 n gO gOc mm gE gEc cEc gB gI gA gL gK bg0 li mk lk il ir inV atV i hi hmm hir hrd1 hrd3 hrd4 (hbg i hi) (hil i hi) (hli i hi)
  have H : Hid _ := h
  clear next h hrd1 hrd3 hrd4 hbg hil hli
  obtain ⟨xf, hxa, hxf⟩ := fr_of a hS.sz hS.df
  have hq1 := (hxf 1).symm.trans hS.s1
  have hq3 := (hxf 3).symm.trans hS.s3
  have hq4 := (hxf 4).symm.trans hS.s4
  have hq5 := (hxf 5).symm.trans hS.s5
  have hq18 := (hxf 18).symm.trans hS.s18
  have hq19 := (hxf 19).symm.trans hS.s19
  have hq20 := (hxf 20).symm.trans hS.s20
  have hq26 := (hxf 26).symm.trans hS.s26
  have hq27 := (hxf 27).symm.trans hS.s27
  have hq29 := (hxf 29).symm.trans hS.s29
  have hq30 := (hxf 30).symm.trans hS.s30
  have hq31 := (hxf 31).symm.trans hS.s31
  have hq32 := (hxf 32).symm.trans hS.s32
  have hq33 := (hxf 33).symm.trans hS.s33
  have hq34 := (hxf 34).symm.trans hS.s34
  subst hxa
  conv => arg 4; simp only [fr, hq1, hq3, hq4, hq5, hq18, hq19, hq20, hq26, hq27, hq29, hq30, hq31, hq32, hq33, hq34]
  clear hxf hS  hq1 hq3 hq4 hq5 hq18 hq19 hq20 hq26 hq27 hq29 hq30 hq31 hq32 hq33 hq34
  conv => arg 2; whnf
  refine wp_seq_k (fun K hK => ?_)
  have HK : Hid _ := hK
  clear hK
  go_wp2_with fail
  refine wp_loop (fun a w' => ∃ (i : Nat) (inV atV : Nat → Value), i ≤ mm ∧ a.tmps.getD 35 undef = .int .i64 (i : Int) ∧ S18 a x1 l1 c1 x3 l3 c3 x4 l4 c4 x5 l5 c5 n gO gOc mm gE gEc cEc gB gI gA gL gK ∧ M18 B1 b1 w0 w' n mm gB gI gA gL gK i i i bg0 li il inV atV) (fun a _ => mm - (intOf (a.tmps.getD 35 undef)).toNat) ⟨0, _, _, Nat.zero_le _, rfl, ⟨rfl, rfl, rfl, rfl, rfl, rfl, rfl, rfl, rfl, rfl, rfl, rfl, rfl, rfl, rfl, rfl, rfl⟩, H.out⟩ (fun a wr hI => ?_)
  clear H
  obtain ⟨i, inV, atV, hi, h35, hS, h⟩ := hI
  have H : Hid _ := h
  clear h
  have Hmo : Hid (mm - (intOf (a.tmps.getD 35 undef)).toNat = mm - i) := by show _ = _; rw [h35]; simp [intOf]
  by_cases hlt : i < mm
  · have b3' : IntKind.i64.wrap ((i : Int) + 1) = (i : Int) + 1 := IntWalk.i64_in _ (by omega)
    obtain ⟨xf, hxa, hxf⟩ := fr_of a hS.sz hS.df
    have hq1 := (hxf 1).symm.trans hS.s1
    have hq3 := (hxf 3).symm.trans hS.s3
    have hq4 := (hxf 4).symm.trans hS.s4
    have hq5 := (hxf 5).symm.trans hS.s5
    have hq18 := (hxf 18).symm.trans hS.s18
    have hq19 := (hxf 19).symm.trans hS.s19
    have hq20 := (hxf 20).symm.trans hS.s20
    have hq26 := (hxf 26).symm.trans hS.s26
    have hq27 := (hxf 27).symm.trans hS.s27
    have hq29 := (hxf 29).symm.trans hS.s29
    have hq30 := (hxf 30).symm.trans hS.s30
    have hq31 := (hxf 31).symm.trans hS.s31
    have hq32 := (hxf 32).symm.trans hS.s32
    have hq33 := (hxf 33).symm.trans hS.s33
    have hq34 := (hxf 34).symm.trans hS.s34
    have hq35 := (hxf 35).symm.trans h35
    subst hxa
    conv => arg 4; simp only [fr, hq1, hq3, hq4, hq5, hq18, hq19, hq20, hq26, hq27, hq29, hq30, hq31, hq32, hq33, hq34, hq35]
    clear hxf hS h35 hq1 hq3 hq4 hq5 hq18 hq19 hq20 hq26 hq27 hq29 hq30 hq31 hq32 hq33 hq34 hq35
    refine wp_seq_k (fun Ka hKa => ?_)
    have HKa : Hid _ := hKa
    clear hKa
    go_wp2_with fail
    refine HKa.out _ _ ?_
    clear HKa Ka
    refine wp_seq_k (fun Kb hKb => ?_)
    have HKb : Hid _ := hKb
    clear hKb
    refine wp_block ?_
    refine Hx.out _ wr inV atV i hlt H.out _ rfl ⟨rfl, rfl, rfl, rfl, rfl, rfl, rfl, rfl, rfl, rfl, rfl, rfl, rfl, rfl, rfl, rfl, rfl⟩ (fun a' w' inV' atV' h35 hS h' => HKb.out _ _ ?_)
    have H' : Hid _ := h'
    clear h' H HKb Kb
    obtain ⟨xf, hxa, hxf⟩ := fr_of a' hS.sz hS.df
    have hq1 := (hxf 1).symm.trans hS.s1
    have hq3 := (hxf 3).symm.trans hS.s3
    have hq4 := (hxf 4).symm.trans hS.s4
    have hq5 := (hxf 5).symm.trans hS.s5
    have hq18 := (hxf 18).symm.trans hS.s18
    have hq19 := (hxf 19).symm.trans hS.s19
    have hq20 := (hxf 20).symm.trans hS.s20
    have hq26 := (hxf 26).symm.trans hS.s26
    have hq27 := (hxf 27).symm.trans hS.s27
    have hq29 := (hxf 29).symm.trans hS.s29
    have hq30 := (hxf 30).symm.trans hS.s30
    have hq31 := (hxf 31).symm.trans hS.s31
    have hq32 := (hxf 32).symm.trans hS.s32
    have hq33 := (hxf 33).symm.trans hS.s33
    have hq34 := (hxf 34).symm.trans hS.s34
    have hq35 := (hxf 35).symm.trans h35
    subst hxa
    conv => arg 4; simp only [fr, hq1, hq3, hq4, hq5, hq18, hq19, hq20, hq26, hq27, hq29, hq30, hq31, hq32, hq33, hq34, hq35]
    clear hxf hS h35 hq1 hq3 hq4 hq5 hq18 hq19 hq20 hq26 hq27 hq29 hq30 hq31 hq32 hq33 hq34 hq35
    go_wp2_with fail
    exact ⟨⟨i + 1, inV', atV', by omega, by go_num, ⟨rfl, rfl, rfl, rfl, rfl, rfl, rfl, rfl, rfl, rfl, rfl, rfl, rfl, rfl, rfl, rfl, rfl⟩, H'.out⟩, by rw [Hmo.out]; show mm - ((i : Int) + 1).toNat < _; omega⟩
  · obtain rfl : i = mm := by omega
    obtain ⟨xf, hxa, hxf⟩ := fr_of a hS.sz hS.df
    have hq1 := (hxf 1).symm.trans hS.s1
    have hq3 := (hxf 3).symm.trans hS.s3
    have hq4 := (hxf 4).symm.trans hS.s4
    have hq5 := (hxf 5).symm.trans hS.s5
    have hq18 := (hxf 18).symm.trans hS.s18
    have hq19 := (hxf 19).symm.trans hS.s19
    have hq20 := (hxf 20).symm.trans hS.s20
    have hq26 := (hxf 26).symm.trans hS.s26
    have hq27 := (hxf 27).symm.trans hS.s27
    have hq29 := (hxf 29).symm.trans hS.s29
    have hq30 := (hxf 30).symm.trans hS.s30
    have hq31 := (hxf 31).symm.trans hS.s31
    have hq32 := (hxf 32).symm.trans hS.s32
    have hq33 := (hxf 33).symm.trans hS.s33
    have hq34 := (hxf 34).symm.trans hS.s34
    have hq35 := (hxf 35).symm.trans h35
    subst hxa
    conv => arg 4; simp only [fr, hq1, hq3, hq4, hq5, hq18, hq19, hq20, hq26, hq27, hq29, hq30, hq31, hq32, hq33, hq34, hq35]
    clear hxf hS h35 hq1 hq3 hq4 hq5 hq18 hq19 hq20 hq26 hq27 hq29 hq30 hq31 hq32 hq33 hq34 hq35
    go_wp2_with fail
    exact HK.out _ _ (Hn.out _ _ inV atV ⟨rfl, rfl, rfl, rfl, rfl, rfl, rfl, rfl, rfl, rfl, rfl, rfl, rfl, rfl⟩ H.out)
end Go.Proofs.Ybulkekys
