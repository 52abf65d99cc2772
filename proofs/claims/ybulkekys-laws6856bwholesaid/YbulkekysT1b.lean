import Derived.Test.YbulkekysRw
namespace Go.Proofs.Ybulkekys
open Go.RowKit

set_option maxHeartbeats 8000000 in
set_option maxRecDepth 1000000 in
theorem ph13 (Q : Exit → Act → World → Prop) (w : World) (x1 : Option Addr) (l1 : Nat) (c1 : Nat) (x3 : Option Addr) (l3 : Nat) (c3 : Nat) (x4 : Option Addr) (l4 : Nat) (c4 : Nat) (x5 : Option Addr) (l5 : Nat) (c5 : Nat) (n : Nat) (gO : Nat) (gOc : Nat) (mm : Nat) (gE : Nat) (gEc : Nat) (cEc : Nat) (hn : n ≤ 4097) (hmm : mm ≤ n) (bg0 li : Nat → Bool) (il : Nat → Nat)
    (a : Act) (hS : S13 a x1 l1 c1 x3 l3 c3 x4 l4 c4 x5 l5 c5 n gO gOc mm gE gEc cEc)
    (next : ∀ a' w' gB gI gA gL gK b1, S18 a' x1 l1 c1 x3 l3 c3 x4 l4 c4 x5 l5 c5 n gO gOc mm gE gEc cEc gB gI gA gL gK → gB ≤ gA ∧ gI ≤ gA → gA < gL ∧ gA < gK → M18 w.heap.size b1 w w' n mm gB gI gA gL gK 0 0 0 bg0 li il (fun _ => .slice none 0 0) (fun _ => .slice none 0 0) → Code.wp Yba.prog (dropSeq 18 (Yba.f4.body.getD .skip)) Q a' w') :
    Code.wp Yba.prog (dropSeq 13 (Yba.f4.body.getD .skip)) Q a w := by
  obtain ⟨i3, hi3, hz30, hz31, hz32⟩ := info_parts I.infoE
  obtain ⟨i4, hi4, hz40, hz41, hz42⟩ := info_parts info4
  obtain ⟨i33, hi33, hz330, hz331, hz332⟩ := info_parts info33
  obtain ⟨i37, hi37, hz370, hz371, hz372⟩ := info_parts info37
  have Hn : Hid _ := next
  clear next
  obtain ⟨xf, hxa, hxf⟩ := fr_of a hS.sz hS.df
  have hq1 := (hxf 1).symm.trans hS.s1
  have hq3 := (hxf 3).symm.trans hS.s3
  have hq4 := (hxf 4).symm.trans hS.s4
  have hq5 := (hxf 5).symm.trans hS.s5
  have hq18 := (hxf 18).symm.trans hS.s18
  have hq19 := (hxf 19).symm.trans hS.s19
  have hq20 := (hxf 20).symm.trans hS.s20
  have hq26 := (hxf 26).symm.trans hS.s26
  have hq27 := (hxf 27).symm.trans hS.s27
  have hq29 := (hxf 29).symm.trans hS.s29
  subst hxa
  conv => arg 4; simp only [fr, hq1, hq3, hq4, hq5, hq18, hq19, hq20, hq26, hq27, hq29]
  clear hxf hS  hq1 hq3 hq4 hq5 hq18 hq19 hq20 hq26 hq27 hq29
  conv => arg 2; whnf
  refine wp_seq_k (fun K1 hK1 => ?_)
  have HK1 : Hid _ := hK1
  clear hK1
  go_wp2_with (at_make; refine wpList_make_arr rfl _ _ 24 rfl 4 i4 (.bool false) 1 Yba.underlying24 hi4 hz40 hz41 hz42 rfl _ _ _ _ mm rfl rfl ?m0 ?m1 ?m2 ?m3 ?_)
  case m0 => first | rfl | omega
  case m1 => first | rfl | omega
  case m2 => omega
  case m3 => unfold maxLen; omega
  intro w1 hA1 hg1
  have hb1 : Below w.heap.size w w1 := (Below.refl _ _).grown hg1 (Nat.le_refl _) (fun k hk => by cases hk)
  have hlt1 := hA1.lt
  rw [mr_const] at hA1
  clear hg1
  go_wp2_with fail
  refine HK1.out _ _ ?_
  clear HK1 K1
  refine wp_seq_k (fun K2 hK2 => ?_)
  have HK2 : Hid _ := hK2
  clear hK2
  go_wp2_with (at_make; refine wpList_make_arr rfl _ _ 36 rfl 37 i37 (.slice none 0 0) 24 Yba.underlying36 hi37 hz370 hz371 hz372 rfl _ _ _ _ mm rfl rfl ?m0 ?m1 ?m2 ?m3 ?_)
  case m0 => first | rfl | omega
  case m1 => first | rfl | omega
  case m2 => omega
  case m3 => unfold maxLen; omega
  intro w2 hA2 hg2
  have hb2 : Below w1.heap.size w1 w2 := (Below.refl _ _).grown hg2 (Nat.le_refl _) (fun k hk => by cases hk)
  have hlt2 := hA2.lt
  rw [mr_const] at hA2
  clear hg2
  go_wp2_with fail
  refine HK2.out _ _ ?_
  clear HK2 K2
  refine wp_seq_k (fun K3 hK3 => ?_)
  have HK3 : Hid _ := hK3
  clear hK3
  go_wp2_with (at_make; refine wpList_make_arr rfl _ _ 32 rfl 33 i33 (.slice none 0 0) 24 Yba.underlying32 hi33 hz330 hz331 hz332 rfl _ _ _ _ mm rfl rfl ?m0 ?m1 ?m2 ?m3 ?_)
  case m0 => first | rfl | omega
  case m1 => first | rfl | omega
  case m2 => omega
  case m3 => unfold maxLen; omega
  intro w3 hA3 hg3
  have hb3 : Below w2.heap.size w2 w3 := (Below.refl _ _).grown hg3 (Nat.le_refl _) (fun k hk => by cases hk)
  have hlt3 := hA3.lt
  rw [mr_const] at hA3
  clear hg3
  go_wp2_with fail
  refine HK3.out _ _ ?_
  clear HK3 K3
  refine wp_seq_k (fun K4 hK4 => ?_)
  have HK4 : Hid _ := hK4
  clear hK4
  go_wp2_with (at_make; refine wpList_make_arr rfl _ _ 33 rfl 3 i3 (.int .i64 0) 8 Yba.underlying33 hi3 hz30 hz31 hz32 rfl _ _ _ _ n rfl rfl ?m0 ?m1 ?m2 ?m3 ?_)
  case m0 => first | rfl | omega
  case m1 => first | rfl | omega
  case m2 => omega
  case m3 => unfold maxLen; omega
  intro w4 hA4 hg4
  have hb4 : Below w3.heap.size w3 w4 := (Below.refl _ _).grown hg4 (Nat.le_refl _) (fun k hk => by cases hk)
  have hlt4 := hA4.lt
  rw [mr_const] at hA4
  clear hg4
  go_wp2_with fail
  refine HK4.out _ _ ?_
  clear HK4 K4
  refine wp_seq_k (fun K5 hK5 => ?_)
  have HK5 : Hid _ := hK5
  clear hK5
  go_wp2_with (at_make; refine wpList_make_arr rfl _ _ 24 rfl 4 i4 (.bool false) 1 Yba.underlying24 hi4 hz40 hz41 hz42 rfl _ _ _ _ n rfl rfl ?m0 ?m1 ?m2 ?m3 ?_)
  case m0 => first | rfl | omega
  case m1 => first | rfl | omega
  case m2 => omega
  case m3 => unfold maxLen; omega
  intro w5 hA5 hg5
  have hb5 : Below w4.heap.size w4 w5 := (Below.refl _ _).grown hg5 (Nat.le_refl _) (fun k hk => by cases hk)
  have hlt5 := hA5.lt
  rw [mr_const] at hA5
  clear hg5
  go_wp2_with fail
  refine HK5.out _ _ ?_
  clear HK5 K5
  have t1 := hb1
  have t2 := hb2
  have d2 := hA1.below hb2 hlt1
  have d3 := d2.below hb3 d2.lt
  have d4 := d3.below hb4 d3.lt
  have d5 := d4.below hb5 d4.lt
  have e3 := hA2.below hb3 hlt2
  have e4 := e3.below hb4 e3.lt
  have e5 := e4.below hb5 e4.lt
  have f4 := hA3.below hb4 hlt3
  have f5 := f4.below hb5 f4.lt
  have g5 := hA4.below hb5 hlt4
  refine Hn.out _ _ w.heap.size w1.heap.size w2.heap.size w3.heap.size w4.heap.size w5.heap.size ⟨rfl, rfl, rfl, rfl, rfl, rfl, rfl, rfl, rfl, rfl, rfl, rfl, rfl, rfl, rfl, rfl, rfl⟩ (by omega) (by omega) ⟨?_, ?_, e5, f5, ?_, ?_, ?_, ?_, ?_, ?_, ?_, ?_⟩
  · exact hb1.trans ((hb2.mono (by omega)).trans ((hb3.mono (by omega)).trans ((hb4.mono (by omega)).trans (hb5.mono (by omega)))))
  · rw [mr_congr mm (lnTo bg0 0) (fun _ => .bool false) (fun j _ => by simp [lnTo])]; exact d5
  · rw [← nTo_zero]; exact g5
  · rw [mr_congr n (lnTo li 0) (fun _ => .bool false) (fun j _ => by simp [lnTo])]; exact hA5
  · have e1 : inTo il 0 = fun _ => [] := by funext j; simp [inTo, mkIn]
    have e2 : atTo li 0 = fun _ => [] := by funext j; simp [atTo, mkAt]
    rw [e1, e2]
    exact RI.start (Nat.le_refl _)
  · omega
  · omega
  · omega
  · omega
  · omega


set_option maxHeartbeats 8000000 in
set_option maxRecDepth 1000000 in
theorem v18 (Q : Exit → Act → World → Prop) (B1 b1 : Nat) (w0 w : World) (x1 : Option Addr) (l1 : Nat) (c1 : Nat) (x3 : Option Addr) (l3 : Nat) (c3 : Nat) (x4 : Option Addr) (l4 : Nat) (c4 : Nat) (x5 : Option Addr) (l5 : Nat) (c5 : Nat) (n : Nat) (gO : Nat) (gOc : Nat) (mm : Nat) (gE : Nat) (gEc : Nat) (cEc : Nat) (gB : Nat) (gI : Nat) (gA : Nat) (gL : Nat) (gK : Nat) (bg0 li lk : Nat → Bool) (il : Nat → Nat) (inV atV : Nat → Value) (i i1 i2 : Nat) (hi : i < mm) (hmm : mm ≤ n)
    (hrd : ∀ w', Below B1 w0 w' → RdB w' x3 l3 lk) (hli : li i = (decide (i < l3) && lk i))
    (h : M18 B1 b1 w0 w n mm gB gI gA gL gK i1 i2 i bg0 li il inV atV)
    (a : Act) (h35 : a.tmps.getD 35 undef = .int .i64 (i : Int)) (hS : S18 a x1 l1 c1 x3 l3 c3 x4 l4 c4 x5 l5 c5 n gO gOc mm gE gEc cEc gB gI gA gL gK)
    (hK : ∀ a' w' atV', a'.tmps.getD 35 undef = .int .i64 (i : Int) → S18 a' x1 l1 c1 x3 l3 c3 x4 l4 c4 x5 l5 c5 n gO gOc mm gE gEc cEc gB gI gA gL gK → M18 B1 b1 w0 w' n mm gB gI gA gL gK i1 i2 (i + 1) bg0 li il inV atV' → Q .normal a' w') :
    Code.wp Yba.prog (sndC (sndC (inC (fstC (sndC (inC (inC (sndC (fstC (dropSeq 18 (Yba.f4.body.getD .skip))))))))))) Q a w := by
  have HK : Hid _ := hK
  have H : Hid _ := h
  clear hK
  have b1' : (0 : Int) ≤ (i : Int) := Int.natCast_nonneg _
  have b2' : (i : Int) < (mm : Int) := by omega
  have b3' : (i : Int) < (n : Int) := by omega
  by_cases hlt : i < l3
  · obtain ⟨b, off, rfl, hbl, cX⟩ := hrd w h.hB i hlt
    simp only [hlt, decide_true, Bool.true_and] at hli
    have b4' : (i : Int) < (l3 : Int) := by omega
    have cK := h.aK.mr i (by omega)
    have fK := h.aK.fr i
    cases hlk : lk i
    · rw [hlk] at hli cX
      clear h hrd cK fK
      obtain ⟨xf, hxa, hxf⟩ := fr_of a hS.sz hS.df
      have hq1 := (hxf 1).symm.trans hS.s1
      have hq3 := (hxf 3).symm.trans hS.s3
      have hq4 := (hxf 4).symm.trans hS.s4
      have hq5 := (hxf 5).symm.trans hS.s5
      have hq18 := (hxf 18).symm.trans hS.s18
      have hq19 := (hxf 19).symm.trans hS.s19
      have hq20 := (hxf 20).symm.trans hS.s20
      have hq26 := (hxf 26).symm.trans hS.s26
      have hq27 := (hxf 27).symm.trans hS.s27
      have hq29 := (hxf 29).symm.trans hS.s29
      have hq30 := (hxf 30).symm.trans hS.s30
      have hq31 := (hxf 31).symm.trans hS.s31
      have hq32 := (hxf 32).symm.trans hS.s32
      have hq33 := (hxf 33).symm.trans hS.s33
      have hq34 := (hxf 34).symm.trans hS.s34
      have hq35 := (hxf 35).symm.trans h35
      subst hxa
      conv => arg 4; simp only [fr, hq1, hq3, hq4, hq5, hq18, hq19, hq20, hq26, hq27, hq29, hq30, hq31, hq32, hq33, hq34, hq35]
      clear hxf hS h35 hq1 hq3 hq4 hq5 hq18 hq19 hq20 hq26 hq27 hq29 hq30 hq31 hq32 hq33 hq34 hq35
      conv => arg 2; whnf
      go_wp2_with fail
      exact HK.out _ _ _ rfl ⟨rfl, rfl, rfl, rfl, rfl, rfl, rfl, rfl, rfl, rfl, rfl, rfl, rfl, rfl, rfl, rfl, rfl⟩ (H.out.skipK hli)
    · rw [hlk] at hli cX
      have hM := h.setK hli
      have hA1 := h.aA.other gK i (.bool true) (ty_ne h.aA.ty h.aK.ty (by decide))
      have hA2 := hA1.alloc (.cells #[.int .i64 (-7)] 3)
      have cA := hA2.mr i hi
      have fA := hA2.fr i
      have hsz : (w.setCell ⟨gK, i, none⟩ (.bool true)).heap.size = w.heap.size := by simp
      clear h hrd hA1 hA2
      obtain ⟨xf, hxa, hxf⟩ := fr_of a hS.sz hS.df
      have hq1 := (hxf 1).symm.trans hS.s1
      have hq3 := (hxf 3).symm.trans hS.s3
      have hq4 := (hxf 4).symm.trans hS.s4
      have hq5 := (hxf 5).symm.trans hS.s5
      have hq18 := (hxf 18).symm.trans hS.s18
      have hq19 := (hxf 19).symm.trans hS.s19
      have hq20 := (hxf 20).symm.trans hS.s20
      have hq26 := (hxf 26).symm.trans hS.s26
      have hq27 := (hxf 27).symm.trans hS.s27
      have hq29 := (hxf 29).symm.trans hS.s29
      have hq30 := (hxf 30).symm.trans hS.s30
      have hq31 := (hxf 31).symm.trans hS.s31
      have hq32 := (hxf 32).symm.trans hS.s32
      have hq33 := (hxf 33).symm.trans hS.s33
      have hq34 := (hxf 34).symm.trans hS.s34
      have hq35 := (hxf 35).symm.trans h35
      subst hxa
      conv => arg 4; simp only [fr, hq1, hq3, hq4, hq5, hq18, hq19, hq20, hq26, hq27, hq29, hq30, hq31, hq32, hq33, hq34, hq35]
      clear hxf hS h35 hq1 hq3 hq4 hq5 hq18 hq19 hq20 hq26 hq27 hq29 hq30 hq31 hq32 hq33 hq34 hq35
      conv => arg 2; whnf
      go_upto_region 55 with (fail)
      generalize w.setCell ⟨gK, i, none⟩ (.bool true) = wd at *
      rw [← hsz] at hM
      have HM : Hid _ := hM
      clear hM hsz
      go_wp2_with fail
      exact HK.out _ _ _ rfl ⟨rfl, rfl, rfl, rfl, rfl, rfl, rfl, rfl, rfl, rfl, rfl, rfl, rfl, rfl, rfl, rfl, rfl⟩ HM.out
  · simp only [hlt, decide_false, Bool.false_and] at hli
    have b4' : decide ((i : Int) < (l3 : Int)) = false := by simp; omega
    clear h hrd
    obtain ⟨xf, hxa, hxf⟩ := fr_of a hS.sz hS.df
    have hq1 := (hxf 1).symm.trans hS.s1
    have hq3 := (hxf 3).symm.trans hS.s3
    have hq4 := (hxf 4).symm.trans hS.s4
    have hq5 := (hxf 5).symm.trans hS.s5
    have hq18 := (hxf 18).symm.trans hS.s18
    have hq19 := (hxf 19).symm.trans hS.s19
    have hq20 := (hxf 20).symm.trans hS.s20
    have hq26 := (hxf 26).symm.trans hS.s26
    have hq27 := (hxf 27).symm.trans hS.s27
    have hq29 := (hxf 29).symm.trans hS.s29
    have hq30 := (hxf 30).symm.trans hS.s30
    have hq31 := (hxf 31).symm.trans hS.s31
    have hq32 := (hxf 32).symm.trans hS.s32
    have hq33 := (hxf 33).symm.trans hS.s33
    have hq34 := (hxf 34).symm.trans hS.s34
    have hq35 := (hxf 35).symm.trans h35
    subst hxa
    conv => arg 4; simp only [fr, hq1, hq3, hq4, hq5, hq18, hq19, hq20, hq26, hq27, hq29, hq30, hq31, hq32, hq33, hq34, hq35]
    clear hxf hS h35 hq1 hq3 hq4 hq5 hq18 hq19 hq20 hq26 hq27 hq29 hq30 hq31 hq32 hq33 hq34 hq35
    conv => arg 2; whnf
    go_wp2_with fail
    exact HK.out _ _ _ rfl ⟨rfl, rfl, rfl, rfl, rfl, rfl, rfl, rfl, rfl, rfl, rfl, rfl, rfl, rfl, rfl, rfl, rfl⟩ (H.out.skipK hli)

set_option maxHeartbeats 8000000 in
set_option maxRecDepth 1000000 in
theorem z18 (Q : Exit → Act → World → Prop) (B1 b1 : Nat) (w0 w : World) (x1 : Option Addr) (l1 : Nat) (c1 : Nat) (x3 : Option Addr) (l3 : Nat) (c3 : Nat) (x4 : Option Addr) (l4 : Nat) (c4 : Nat) (x5 : Option Addr) (l5 : Nat) (c5 : Nat) (n : Nat) (gO : Nat) (gOc : Nat) (mm : Nat) (gE : Nat) (gEc : Nat) (cEc : Nat) (gB : Nat) (gI : Nat) (gA : Nat) (gL : Nat) (gK : Nat) (bg0 li : Nat → Bool) (il ir : Nat → Nat) (inV atV : Nat → Value) (i i1 i3 : Nat) (hi : i < mm) (hmm : mm ≤ n) (hir : ∀ i, ir i ≤ 255)
    (hrd : ∀ w', Below B1 w0 w' → RdN w' .u8 x4 l4 ir) (hil : il i = if i < l4 then ir i % 4 else 0)
    (h : M18 B1 b1 w0 w n mm gB gI gA gL gK i1 i i3 bg0 li il inV atV)
    (a : Act) (h35 : a.tmps.getD 35 undef = .int .i64 (i : Int)) (hS : S18 a x1 l1 c1 x3 l3 c3 x4 l4 c4 x5 l5 c5 n gO gOc mm gE gEc cEc gB gI gA gL gK)
    (hK : ∀ a' w' inV', a'.tmps.getD 35 undef = .int .i64 (i : Int) → S18 a' x1 l1 c1 x3 l3 c3 x4 l4 c4 x5 l5 c5 n gO gOc mm gE gEc cEc gB gI gA gL gK → M18 B1 b1 w0 w' n mm gB gI gA gL gK i1 (i + 1) i3 bg0 li il inV' atV → Q .normal a' w') :
    Code.wp Yba.prog (fstC (sndC (inC (fstC (sndC (inC (inC (sndC (fstC (dropSeq 18 (Yba.f4.body.getD .skip))))))))))) Q a w := by
  obtain ⟨i39, hi39, hz390, hz391, hz392⟩ := info_parts info39
  have HK : Hid _ := hK
  have H : Hid _ := h
  clear hK
  have b1' : (0 : Int) ≤ (i : Int) := Int.natCast_nonneg _
  have b2' : (i : Int) < (mm : Int) := by omega
  have b3' : (i : Int) < (n : Int) := by omega
  by_cases hlt : i < l4
  · obtain ⟨b, off, rfl, hbl, cX⟩ := hrd w h.hB i hlt
    rw [if_pos hlt] at hil
    have b4' : (i : Int) < (l4 : Int) := by omega
    have cL := h.aL.mr i (by omega)
    have fL := h.aL.fr i
    have hrx := hir i
    generalize ir i = x at *
    have htx : (x : Int).tmod 4 = ((x % 4 : Nat) : Int) := by rw [Int.tmod_eq_emod_of_nonneg (by omega)]; simp
    have htx2 : (x : Int) % 4 = ((x % 4 : Nat) : Int) := by simp
    have hk3 : x % 4 ≤ 3 := by omega
    have Hil : Hid (il i = x % 4) := hil
    clear hil
    generalize x % 4 = k at *
    have hwk : IntKind.u8.wrap (k : Int) = (k : Int) := by rw [IntKind.wrap_u8]; omega
    have hwk2 : IntKind.i64.wrap (k : Int) = (k : Int) := IntWalk.i64_in _ (by omega)
    by_cases hk0 : k = 0
    · subst hk0
      clear h hrd
      obtain ⟨xf, hxa, hxf⟩ := fr_of a hS.sz hS.df
      have hq1 := (hxf 1).symm.trans hS.s1
      have hq3 := (hxf 3).symm.trans hS.s3
      have hq4 := (hxf 4).symm.trans hS.s4
      have hq5 := (hxf 5).symm.trans hS.s5
      have hq18 := (hxf 18).symm.trans hS.s18
      have hq19 := (hxf 19).symm.trans hS.s19
      have hq20 := (hxf 20).symm.trans hS.s20
      have hq26 := (hxf 26).symm.trans hS.s26
      have hq27 := (hxf 27).symm.trans hS.s27
      have hq29 := (hxf 29).symm.trans hS.s29
      have hq30 := (hxf 30).symm.trans hS.s30
      have hq31 := (hxf 31).symm.trans hS.s31
      have hq32 := (hxf 32).symm.trans hS.s32
      have hq33 := (hxf 33).symm.trans hS.s33
      have hq34 := (hxf 34).symm.trans hS.s34
      have hq35 := (hxf 35).symm.trans h35
      subst hxa
      conv => arg 4; simp only [fr, hq1, hq3, hq4, hq5, hq18, hq19, hq20, hq26, hq27, hq29, hq30, hq31, hq32, hq33, hq34, hq35]
      clear hxf hS h35 hq1 hq3 hq4 hq5 hq18 hq19 hq20 hq26 hq27 hq29 hq30 hq31 hq32 hq33 hq34 hq35
      conv => arg 2; whnf
      go_wp2_with fail
      exact HK.out _ _ _ rfl ⟨rfl, rfl, rfl, rfl, rfl, rfl, rfl, rfl, rfl, rfl, rfl, rfl, rfl, rfl, rfl, rfl, rfl⟩ (H.out.setL0 Hil.out)
    · have hk1 : (0 : Int) < (k : Int) := by omega
      have hk2 : 0 < k := by omega
      have Hsz : Hid ((w.setCell ⟨gL, i, none⟩ (.int .i64 (k : Int))).heap.size = w.heap.size) := by show _ = _; simp
      have cI0 := (h.setL (.int .i64 (k : Int))).2.2.1
      clear h hrd
      obtain ⟨xf, hxa, hxf⟩ := fr_of a hS.sz hS.df
      have hq1 := (hxf 1).symm.trans hS.s1
      have hq3 := (hxf 3).symm.trans hS.s3
      have hq4 := (hxf 4).symm.trans hS.s4
      have hq5 := (hxf 5).symm.trans hS.s5
      have hq18 := (hxf 18).symm.trans hS.s18
      have hq19 := (hxf 19).symm.trans hS.s19
      have hq20 := (hxf 20).symm.trans hS.s20
      have hq26 := (hxf 26).symm.trans hS.s26
      have hq27 := (hxf 27).symm.trans hS.s27
      have hq29 := (hxf 29).symm.trans hS.s29
      have hq30 := (hxf 30).symm.trans hS.s30
      have hq31 := (hxf 31).symm.trans hS.s31
      have hq32 := (hxf 32).symm.trans hS.s32
      have hq33 := (hxf 33).symm.trans hS.s33
      have hq34 := (hxf 34).symm.trans hS.s34
      have hq35 := (hxf 35).symm.trans h35
      subst hxa
      conv => arg 4; simp only [fr, hq1, hq3, hq4, hq5, hq18, hq19, hq20, hq26, hq27, hq29, hq30, hq31, hq32, hq33, hq34, hq35]
      clear hxf hS h35 hq1 hq3 hq4 hq5 hq18 hq19 hq20 hq26 hq27 hq29 hq30 hq31 hq32 hq33 hq34 hq35
      conv => arg 2; whnf
      go_upto_region 46 with (fail)
      generalize hwd : w.setCell ⟨gL, i, none⟩ (.int .i64 (k : Int)) = wd at *
      have Hwd : Hid (w.setCell ⟨gL, i, none⟩ (.int .i64 (k : Int)) = wd) := hwd
      clear hwd
      go_wp2_with (at_make; refine wpList_make_full _ rfl _ _ 37 rfl 0 39 i39 (.agg #[.int .i64 0, .int .i64 0]) 2 Yba.underlying37 hi39 hz390 hz391 _ _ _ _ k rfl rfl ?m0 ?m1 ?m2 ?m3 (Nat.zero_le _) ?_)
      case m0 => first | rfl | omega
      case m1 => first | rfl | omega
      case m2 => rw [hz392]; omega
      case m3 => unfold maxLen; omega
      intro w2 hA2 hg2
      have hb2 : Below wd.heap.size wd w2 := (Below.refl _ _).grown hg2 (Nat.le_refl _) (fun k hk => by cases hk)
      clear hg2
      obtain ⟨xs0, hA2⟩ : ∃ xs0, w2.ownsRow 0 39 2 (.slice (some ⟨wd.heap.size, 0, none⟩) k k) k xs0 := ⟨_, hA2⟩
      go_wp2_with fail
      generalize hgr : wd.heap.size = gr at *
      refine wp_loop (fun a w' => ∃ (j : Nat) (xs : List Value), j ≤ k ∧ a.tmps.getD 38 undef = .int .i64 (j : Int) ∧ a.tmps.getD 36 undef = .int .i64 (k : Int) ∧ a.tmps.getD 37 undef = .slice (some ⟨gr, 0, none⟩) k k ∧ a.tmps.getD 35 undef = .int .i64 (i : Int) ∧ S18 a x1 l1 c1 x3 l3 c3 (some ⟨b, off, none⟩) l4 c4 x5 l5 c5 n gO gOc mm gE gEc cEc gB gI gA gL gK ∧ Below gr wd w' ∧ w'.ownsRow 0 39 2 (.slice (some ⟨gr, 0, none⟩) k k) k xs ∧ ∀ q, q < j → xs[q * 2]? = some (.int .i64 (-1)) ∧ xs[q * 2 + 1]? = some (.int .i64 (q : Int))) (fun a _ => k - (intOf (a.tmps.getD 38 undef)).toNat) ⟨0, xs0, Nat.zero_le _, rfl, rfl, rfl, rfl, ⟨rfl, rfl, rfl, rfl, rfl, rfl, rfl, rfl, rfl, rfl, rfl, rfl, rfl, rfl, rfl, rfl, rfl⟩, hb2, hA2, (fun q hq => absurd hq (Nat.not_lt_zero _))⟩ (fun a wr hI => ?_)
      clear hA2 hb2
      obtain ⟨j, xs, hj, h38, h36, h37, h35, hS, hB, hA, hxs⟩ := hI
      have Hmo : Hid (k - (intOf (a.tmps.getD 38 undef)).toNat = k - j) := by show _ = _; rw [h38]; simp [intOf]
      have hxl : xs.length = k * 2 := hA.1
      by_cases hjk : j < k
      · have s1 := (World.ownsRow.stored hA (j * 2) (.int .i64 (-1))).1
        have s2 := (World.ownsRow.stored s1 (j * 2 + 1) (.int .i64 (j : Int))).1
        have c0 : wr.cell? ⟨gr, j * 2, none⟩ = some (xs[j * 2]'(by omega)) := row_cell hA _ _ (List.getElem?_eq_getElem (by omega))
        have c1 : wr.cell? ⟨gr, j * 2 + 1, none⟩ = some (xs[j * 2 + 1]'(by omega)) := row_cell hA _ _ (List.getElem?_eq_getElem (by omega))
        have f0 : wr.frozen? ⟨gr, j * 2, none⟩ = false := World.ownsRow.frozenAt hA _
        have f1 : wr.frozen? ⟨gr, j * 2 + 1, none⟩ = false := World.ownsRow.frozenAt hA _
        have hB2 := below_set (below_set hB gr (j * 2) (.int .i64 (-1)) (Nat.le_refl _)) gr (j * 2 + 1) (.int .i64 (j : Int)) (Nat.le_refl _)
        have hxs2 : ∀ q, q < j + 1 → ((xs.set (j * 2) (.int .i64 (-1))).set (j * 2 + 1) (.int .i64 (j : Int)))[q * 2]? = some (.int .i64 (-1)) ∧ ((xs.set (j * 2) (.int .i64 (-1))).set (j * 2 + 1) (.int .i64 (j : Int)))[q * 2 + 1]? = some (.int .i64 (q : Int)) := fun q hq => by
          by_cases e : q = j
          · subst e
            rw [List.getElem?_set_ne (by omega), List.getElem?_set_self (by omega), List.getElem?_set_self (by simp; omega)]
            exact ⟨rfl, rfl⟩
          · rw [List.getElem?_set_ne (by omega), List.getElem?_set_ne (by omega), List.getElem?_set_ne (by omega), List.getElem?_set_ne (by omega)]
            exact hxs q (by omega)
        clear hA hB s1 hxs
        obtain ⟨xf, hxa, hxf⟩ := fr_of a hS.sz hS.df
        have hq1 := (hxf 1).symm.trans hS.s1
        have hq3 := (hxf 3).symm.trans hS.s3
        have hq4 := (hxf 4).symm.trans hS.s4
        have hq5 := (hxf 5).symm.trans hS.s5
        have hq18 := (hxf 18).symm.trans hS.s18
        have hq19 := (hxf 19).symm.trans hS.s19
        have hq20 := (hxf 20).symm.trans hS.s20
        have hq26 := (hxf 26).symm.trans hS.s26
        have hq27 := (hxf 27).symm.trans hS.s27
        have hq29 := (hxf 29).symm.trans hS.s29
        have hq30 := (hxf 30).symm.trans hS.s30
        have hq31 := (hxf 31).symm.trans hS.s31
        have hq32 := (hxf 32).symm.trans hS.s32
        have hq33 := (hxf 33).symm.trans hS.s33
        have hq34 := (hxf 34).symm.trans hS.s34
        have hq35 := (hxf 35).symm.trans h35
        have hq36 := (hxf 36).symm.trans h36
        have hq37 := (hxf 37).symm.trans h37
        have hq38 := (hxf 38).symm.trans h38
        subst hxa
        conv => arg 4; simp only [fr, hq1, hq3, hq4, hq5, hq18, hq19, hq20, hq26, hq27, hq29, hq30, hq31, hq32, hq33, hq34, hq35, hq36, hq37, hq38]
        clear hxf hS h35 h36 h37 h38 hq1 hq3 hq4 hq5 hq18 hq19 hq20 hq26 hq27 hq29 hq30 hq31 hq32 hq33 hq34 hq35 hq36 hq37 hq38
        go_wp2_with fail
        exact ⟨⟨j + 1, _, by omega, by go_num, rfl, rfl, rfl, ⟨rfl, rfl, rfl, rfl, rfl, rfl, rfl, rfl, rfl, rfl, rfl, rfl, rfl, rfl, rfl, rfl, rfl⟩, hB2, s2, hxs2⟩, by rw [Hmo.out]; show k - ((j : Int) + 1).toNat < _; omega⟩
      · obtain rfl : j = k := by omega
        have hfin := lc_ext xs j hxl hxs
        rw [hfin] at hA
        clear hxs hfin hxl
        have hIw := cI0.below hB (by have := cI0.lt; omega)
        have cI := hIw.mr i hi
        have fI := hIw.fr i
        have hil := Hil.out
        have hM := H.out.setIn (w2 := wr) (gr := gr) (c := j) (by rw [hil, Hwd.out, hgr]; exact hB) (by have := Hsz.out; omega) (by rw [hil]; exact hA)
        rw [hil] at hM
        have HM : Hid _ := hM
        clear hM hA hB hIw cI0 hil
        obtain ⟨xf, hxa, hxf⟩ := fr_of a hS.sz hS.df
        have hq1 := (hxf 1).symm.trans hS.s1
        have hq3 := (hxf 3).symm.trans hS.s3
        have hq4 := (hxf 4).symm.trans hS.s4
        have hq5 := (hxf 5).symm.trans hS.s5
        have hq18 := (hxf 18).symm.trans hS.s18
        have hq19 := (hxf 19).symm.trans hS.s19
        have hq20 := (hxf 20).symm.trans hS.s20
        have hq26 := (hxf 26).symm.trans hS.s26
        have hq27 := (hxf 27).symm.trans hS.s27
        have hq29 := (hxf 29).symm.trans hS.s29
        have hq30 := (hxf 30).symm.trans hS.s30
        have hq31 := (hxf 31).symm.trans hS.s31
        have hq32 := (hxf 32).symm.trans hS.s32
        have hq33 := (hxf 33).symm.trans hS.s33
        have hq34 := (hxf 34).symm.trans hS.s34
        have hq35 := (hxf 35).symm.trans h35
        have hq36 := (hxf 36).symm.trans h36
        have hq37 := (hxf 37).symm.trans h37
        have hq38 := (hxf 38).symm.trans h38
        subst hxa
        conv => arg 4; simp only [fr, hq1, hq3, hq4, hq5, hq18, hq19, hq20, hq26, hq27, hq29, hq30, hq31, hq32, hq33, hq34, hq35, hq36, hq37, hq38]
        clear hxf hS h35 h36 h37 h38 hq1 hq3 hq4 hq5 hq18 hq19 hq20 hq26 hq27 hq29 hq30 hq31 hq32 hq33 hq34 hq35 hq36 hq37 hq38
        go_wp2_with fail
        exact HK.out _ _ _ rfl ⟨rfl, rfl, rfl, rfl, rfl, rfl, rfl, rfl, rfl, rfl, rfl, rfl, rfl, rfl, rfl, rfl, rfl⟩ HM.out
  · rw [if_neg hlt] at hil
    have b4' : decide ((i : Int) < (l4 : Int)) = false := by simp; omega
    clear h hrd
    obtain ⟨xf, hxa, hxf⟩ := fr_of a hS.sz hS.df
    have hq1 := (hxf 1).symm.trans hS.s1
    have hq3 := (hxf 3).symm.trans hS.s3
    have hq4 := (hxf 4).symm.trans hS.s4
    have hq5 := (hxf 5).symm.trans hS.s5
    have hq18 := (hxf 18).symm.trans hS.s18
    have hq19 := (hxf 19).symm.trans hS.s19
    have hq20 := (hxf 20).symm.trans hS.s20
    have hq26 := (hxf 26).symm.trans hS.s26
    have hq27 := (hxf 27).symm.trans hS.s27
    have hq29 := (hxf 29).symm.trans hS.s29
    have hq30 := (hxf 30).symm.trans hS.s30
    have hq31 := (hxf 31).symm.trans hS.s31
    have hq32 := (hxf 32).symm.trans hS.s32
    have hq33 := (hxf 33).symm.trans hS.s33
    have hq34 := (hxf 34).symm.trans hS.s34
    have hq35 := (hxf 35).symm.trans h35
    subst hxa
    conv => arg 4; simp only [fr, hq1, hq3, hq4, hq5, hq18, hq19, hq20, hq26, hq27, hq29, hq30, hq31, hq32, hq33, hq34, hq35]
    clear hxf hS h35 hq1 hq3 hq4 hq5 hq18 hq19 hq20 hq26 hq27 hq29 hq30 hq31 hq32 hq33 hq34 hq35
    conv => arg 2; whnf
    go_wp2_with fail
    exact HK.out _ _ _ rfl ⟨rfl, rfl, rfl, rfl, rfl, rfl, rfl, rfl, rfl, rfl, rfl, rfl, rfl, rfl, rfl, rfl, rfl⟩ (H.out.skipL hil)
end Go.Proofs.Ybulkekys
