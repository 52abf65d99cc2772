import Derived.Test.YbulkekysT1c
namespace Go.Proofs.Ybulkekys
open Go.RowKit

set_option maxHeartbeats 8000000 in
set_option maxRecDepth 1000000 in
theorem ph9 (Q : Exit → Act → World → Prop) (w : World) (x1 : Option Addr) (l1 : Nat) (c1 : Nat) (x2 : Option Addr) (l2 : Nat) (c2 : Nat) (x3 : Option Addr) (l3 : Nat) (c3 : Nat) (x4 : Option Addr) (l4 : Nat) (c4 : Nat) (x5 : Option Addr) (l5 : Nat) (c5 : Nat) (mq : Nat) (n : Nat) (gO : Nat) (gOc : Nat) (hn : n ≤ 4097) (hm : mq ≤ 65535)
    (a : Act) (hS : S9 a x1 l1 c1 x2 l2 c2 x3 l3 c3 x4 l4 c4 x5 l5 c5 mq n gO gOc)
    (next : ∀ a' w' mm gE, S11 a' x1 l1 c1 x2 l2 c2 x3 l3 c3 x4 l4 c4 x5 l5 c5 n gO gOc mm gE → mm = mq % (n + 1) → Below w.heap.size w w' → gE = w.heap.size → Arr w' gE 4 n n (mr n fun _ => .bool false) → Code.wp Yba.prog (dropSeq 11 (Yba.f4.body.getD .skip)) Q a' w') :
    Code.wp Yba.prog (dropSeq 9 (Yba.f4.body.getD .skip)) Q a w := by
  obtain ⟨i4, hi4, hz40, hz41, hz42⟩ := info_parts info4
  have Hn : Hid _ := next
  clear next
  have hwx : IntKind.i64.wrap (mq : Int) = (mq : Int) := IntWalk.i64_in _ (by omega)
  have hwy : IntKind.i64.wrap ((n : Int) + 1) = (n : Int) + 1 := IntWalk.i64_in _ (by omega)
  have htx : (mq : Int).tmod ((n : Int) + 1) = ((mq % (n + 1) : Nat) : Int) := by rw [Int.tmod_eq_emod_of_nonneg (by omega)]; simp
  have hn1 : ¬ (n : Int) + 1 = 0 := by omega
  obtain ⟨mm, hmm⟩ : ∃ mm, mm = mq % (n + 1) := ⟨_, rfl⟩
  have Hmm : Hid (mm = mq % (n + 1)) := hmm
  rw [← hmm] at htx
  have hml : mm < n + 1 := by rw [hmm]; exact Nat.mod_lt _ (by omega)
  clear hmm
  obtain ⟨xf, hxa, hxf⟩ := fr_of a hS.sz hS.df
  have hq1 := (hxf 1).symm.trans hS.s1
  have hq2 := (hxf 2).symm.trans hS.s2
  have hq3 := (hxf 3).symm.trans hS.s3
  have hq4 := (hxf 4).symm.trans hS.s4
  have hq5 := (hxf 5).symm.trans hS.s5
  have hq6 := (hxf 6).symm.trans hS.s6
  have hq18 := (hxf 18).symm.trans hS.s18
  have hq19 := (hxf 19).symm.trans hS.s19
  have hq20 := (hxf 20).symm.trans hS.s20
  subst hxa
  conv => arg 4; simp only [fr, hq1, hq2, hq3, hq4, hq5, hq6, hq18, hq19, hq20]
  clear hxf hS  hq1 hq2 hq3 hq4 hq5 hq6 hq18 hq19 hq20
  conv => arg 2; whnf
  refine wp_seq_k (fun K1 hK1 => ?_)
  have HK1 : Hid _ := hK1
  clear hK1
  go_wp2_with fail
  refine HK1.out _ _ ?_
  clear HK1 K1
  refine wp_seq_k (fun K2 hK2 => ?_)
  have HK2 : Hid _ := hK2
  clear hK2
  go_wp2_with (at_make; refine wpList_make_arr rfl _ _ 24 rfl 4 i4 (.bool false) 1 Yba.underlying24 hi4 hz40 hz41 hz42 rfl _ _ _ _ n rfl rfl ?m0 ?m1 ?m2 ?m3 ?_)
  case m0 => first | rfl | omega
  case m1 => first | rfl | omega
  case m2 => omega
  case m3 => unfold maxLen; omega
  intro w1 hA1 hg1
  have hb1 : Below w.heap.size w w1 := (Below.refl _ _).grown hg1 (Nat.le_refl _) (fun k hk => by cases hk)
  have hlt1 := hA1.lt
  rw [mr_const] at hA1
  clear hg1
  go_wp2_with fail
  refine HK2.out _ _ ?_
  clear HK2 K2
  exact Hn.out _ _ mm _ ⟨rfl, rfl, rfl, rfl, rfl, rfl, rfl, rfl, rfl, rfl, rfl, rfl⟩ Hmm.out hb1 rfl hA1

set_option maxHeartbeats 8000000 in
set_option maxRecDepth 1000000 in
theorem ph11 (Q : Exit → Act → World → Prop) (w : World) (B1 : Nat) (x1 : Option Addr) (l1 : Nat) (c1 : Nat) (x2 : Option Addr) (l2 : Nat) (c2 : Nat) (x3 : Option Addr) (l3 : Nat) (c3 : Nat) (x4 : Option Addr) (l4 : Nat) (c4 : Nat) (x5 : Option Addr) (l5 : Nat) (c5 : Nat) (n : Nat) (gO : Nat) (gOc : Nat) (mm : Nat) (gE : Nat) (E en : Nat → Bool) (hn : n ≤ 4097)
    (hrd : ∀ w', Below B1 w w' → RdB w' x2 l2 en) (hE : ∀ i, i < n → E i = (decide (i < l2) && en i)) (hb : B1 ≤ gE) (aE : Arr w gE 4 n n (mr n fun _ => .bool false))
    (a : Act) (hS : S11 a x1 l1 c1 x2 l2 c2 x3 l3 c3 x4 l4 c4 x5 l5 c5 n gO gOc mm gE)
    (next : ∀ a' w', S11 a' x1 l1 c1 x2 l2 c2 x3 l3 c3 x4 l4 c4 x5 l5 c5 n gO gOc mm gE → Below B1 w w' → Arr w' gE 4 n n (mr n fun i => .bool (E i)) → Code.wp Yba.prog (dropSeq 12 (Yba.f4.body.getD .skip)) Q a' w') :
    Code.wp Yba.prog (dropSeq 11 (Yba.f4.body.getD .skip)) Q a w := by
  have Hn : Hid _ := next
  have Hrd : Hid _ := hrd
  have HE : Hid _ := hE
  clear next hrd hE
  have aE0 : Arr w gE 4 n n (mr n (lnTo E 0)) := by
    rw [mr_congr n (lnTo E 0) (fun _ => .bool false) (fun j _ => by simp [lnTo])]; exact aE
  clear aE
  obtain ⟨xf, hxa, hxf⟩ := fr_of a hS.sz hS.df
  have hq1 := (hxf 1).symm.trans hS.s1
  have hq2 := (hxf 2).symm.trans hS.s2
  have hq3 := (hxf 3).symm.trans hS.s3
  have hq4 := (hxf 4).symm.trans hS.s4
  have hq5 := (hxf 5).symm.trans hS.s5
  have hq18 := (hxf 18).symm.trans hS.s18
  have hq19 := (hxf 19).symm.trans hS.s19
  have hq20 := (hxf 20).symm.trans hS.s20
  have hq26 := (hxf 26).symm.trans hS.s26
  have hq27 := (hxf 27).symm.trans hS.s27
  subst hxa
  conv => arg 4; simp only [fr, hq1, hq2, hq3, hq4, hq5, hq18, hq19, hq20, hq26, hq27]
  clear hxf hS  hq1 hq2 hq3 hq4 hq5 hq18 hq19 hq20 hq26 hq27
  conv => arg 2; whnf
  refine wp_seq_k (fun K hK => ?_)
  have HK : Hid _ := hK
  clear hK
  go_wp2_with fail
  refine wp_loop (fun a w' => ∃ j : Nat, j ≤ n ∧ a.tmps.getD 141 undef = .int .i64 (j : Int) ∧ a.tmps.getD 140 undef = .int .i64 (n : Int) ∧ S11 a x1 l1 c1 x2 l2 c2 x3 l3 c3 x4 l4 c4 x5 l5 c5 n gO gOc mm gE ∧ Below B1 w w' ∧ Arr w' gE 4 n n (mr n (lnTo E j))) (fun a _ => n - (intOf (a.tmps.getD 141 undef)).toNat) ⟨0, Nat.zero_le _, rfl, rfl, ⟨rfl, rfl, rfl, rfl, rfl, rfl, rfl, rfl, rfl, rfl, rfl, rfl⟩, Below.refl _ _, aE0⟩ (fun a wr hI => ?_)
  clear aE0
  obtain ⟨j, hj, h141, h140, hS, hB, hA⟩ := hI
  have Hmo : Hid (n - (intOf (a.tmps.getD 141 undef)).toNat = n - j) := by show _ = _; rw [h141]; simp [intOf]
  by_cases hlt : j < n
  · have hEj := HE.out j hlt
    have hA2 := hA.setMr j (.bool (E j))
    rw [← lnTo_step] at hA2
    have hB2 := below_set hB gE j (.bool (E j)) hb
    have cE := hA.mr j hlt
    have fE := hA.fr j
    have b1' : (0 : Int) ≤ (j : Int) := Int.natCast_nonneg _
    have b2' : (j : Int) < (n : Int) := by omega
    by_cases hl2 : j < l2
    · obtain ⟨b, off, rfl, hbl, cX⟩ := Hrd.out wr hB j hl2
      simp only [hl2, decide_true, Bool.true_and] at hEj
      rw [hEj] at hA2 hB2
      have b4' : (j : Int) < (l2 : Int) := by omega
      clear hA hB hEj
      generalize en j = v at *
      obtain ⟨xf, hxa, hxf⟩ := fr_of a hS.sz hS.df
      have hq1 := (hxf 1).symm.trans hS.s1
      have hq2 := (hxf 2).symm.trans hS.s2
      have hq3 := (hxf 3).symm.trans hS.s3
      have hq4 := (hxf 4).symm.trans hS.s4
      have hq5 := (hxf 5).symm.trans hS.s5
      have hq18 := (hxf 18).symm.trans hS.s18
      have hq19 := (hxf 19).symm.trans hS.s19
      have hq20 := (hxf 20).symm.trans hS.s20
      have hq26 := (hxf 26).symm.trans hS.s26
      have hq27 := (hxf 27).symm.trans hS.s27
      have hq140 := (hxf 140).symm.trans h140
      have hq141 := (hxf 141).symm.trans h141
      subst hxa
      conv => arg 4; simp only [fr, hq1, hq2, hq3, hq4, hq5, hq18, hq19, hq20, hq26, hq27, hq140, hq141]
      clear hxf hS h140 h141 hq1 hq2 hq3 hq4 hq5 hq18 hq19 hq20 hq26 hq27 hq140 hq141
      go_wp2_with fail
      exact ⟨⟨j + 1, by omega, by go_num, rfl, ⟨rfl, rfl, rfl, rfl, rfl, rfl, rfl, rfl, rfl, rfl, rfl, rfl⟩, hB2, hA2⟩, by rw [Hmo.out]; show n - ((j : Int) + 1).toNat < _; omega⟩
    · simp only [hl2, decide_false, Bool.false_and] at hEj
      rw [hEj] at hA2 hB2
      have b4' : decide ((j : Int) < (l2 : Int)) = false := by simp; omega
      clear hA hB hEj
      obtain ⟨xf, hxa, hxf⟩ := fr_of a hS.sz hS.df
      have hq1 := (hxf 1).symm.trans hS.s1
      have hq2 := (hxf 2).symm.trans hS.s2
      have hq3 := (hxf 3).symm.trans hS.s3
      have hq4 := (hxf 4).symm.trans hS.s4
      have hq5 := (hxf 5).symm.trans hS.s5
      have hq18 := (hxf 18).symm.trans hS.s18
      have hq19 := (hxf 19).symm.trans hS.s19
      have hq20 := (hxf 20).symm.trans hS.s20
      have hq26 := (hxf 26).symm.trans hS.s26
      have hq27 := (hxf 27).symm.trans hS.s27
      have hq140 := (hxf 140).symm.trans h140
      have hq141 := (hxf 141).symm.trans h141
      subst hxa
      conv => arg 4; simp only [fr, hq1, hq2, hq3, hq4, hq5, hq18, hq19, hq20, hq26, hq27, hq140, hq141]
      clear hxf hS h140 h141 hq1 hq2 hq3 hq4 hq5 hq18 hq19 hq20 hq26 hq27 hq140 hq141
      go_wp2_with fail
      exact ⟨⟨j + 1, by omega, by go_num, rfl, ⟨rfl, rfl, rfl, rfl, rfl, rfl, rfl, rfl, rfl, rfl, rfl, rfl⟩, hB2, hA2⟩, by rw [Hmo.out]; show n - ((j : Int) + 1).toNat < _; omega⟩
  · obtain rfl : j = n := by omega
    have hA2 : Arr wr gE 4 j j (mr j fun i => .bool (E i)) := by
      rw [mr_congr j (fun i => .bool (E i)) (lnTo E j) (fun i hi => by simp [lnTo, hi])]; exact hA
    clear hA
    obtain ⟨xf, hxa, hxf⟩ := fr_of a hS.sz hS.df
    have hq1 := (hxf 1).symm.trans hS.s1
    have hq2 := (hxf 2).symm.trans hS.s2
    have hq3 := (hxf 3).symm.trans hS.s3
    have hq4 := (hxf 4).symm.trans hS.s4
    have hq5 := (hxf 5).symm.trans hS.s5
    have hq18 := (hxf 18).symm.trans hS.s18
    have hq19 := (hxf 19).symm.trans hS.s19
    have hq20 := (hxf 20).symm.trans hS.s20
    have hq26 := (hxf 26).symm.trans hS.s26
    have hq27 := (hxf 27).symm.trans hS.s27
    have hq140 := (hxf 140).symm.trans h140
    have hq141 := (hxf 141).symm.trans h141
    subst hxa
    conv => arg 4; simp only [fr, hq1, hq2, hq3, hq4, hq5, hq18, hq19, hq20, hq26, hq27, hq140, hq141]
    clear hxf hS h140 h141 hq1 hq2 hq3 hq4 hq5 hq18 hq19 hq20 hq26 hq27 hq140 hq141
    go_wp2_with fail
    exact HK.out _ _ (Hn.out _ _ ⟨rfl, rfl, rfl, rfl, rfl, rfl, rfl, rfl, rfl, rfl, rfl, rfl⟩ hB hA2)

set_option maxHeartbeats 8000000 in
set_option maxRecDepth 1000000 in
theorem ph12 (Q : Exit → Act → World → Prop) (w : World) (x1 : Option Addr) (l1 : Nat) (c1 : Nat) (x2 : Option Addr) (l2 : Nat) (c2 : Nat) (x3 : Option Addr) (l3 : Nat) (c3 : Nat) (x4 : Option Addr) (l4 : Nat) (c4 : Nat) (x5 : Option Addr) (l5 : Nat) (c5 : Nat) (n : Nat) (gO : Nat) (gOc : Nat) (mm : Nat) (gE : Nat) (E : Nat → Bool) (hn : n ≤ 4097)
    (aE : Arr w gE 4 n n (mr n fun i => .bool (E i)))
    (a : Act) (hS : S11 a x1 l1 c1 x2 l2 c2 x3 l3 c3 x4 l4 c4 x5 l5 c5 n gO gOc mm gE)
    (next : ∀ a' w' gEc cEc, S13 a' x1 l1 c1 x3 l3 c3 x4 l4 c4 x5 l5 c5 n gO gOc mm gE gEc cEc → Below w.heap.size w w' → w.heap.size ≤ gEc → Arr w' gEc 4 n cEc (mr n fun i => .bool (E i)) → Code.wp Yba.prog (dropSeq 13 (Yba.f4.body.getD .skip)) Q a' w') :
    Code.wp Yba.prog (dropSeq 12 (Yba.f4.body.getD .skip)) Q a w := by
  have Hn : Hid _ := next
  clear next
  have hC1 := cloneB_any gE n n _ w aE (mr_oneB _ _) (by omega)
  obtain ⟨xf, hxa, hxf⟩ := fr_of a hS.sz hS.df
  have hq1 := (hxf 1).symm.trans hS.s1
  have hq2 := (hxf 2).symm.trans hS.s2
  have hq3 := (hxf 3).symm.trans hS.s3
  have hq4 := (hxf 4).symm.trans hS.s4
  have hq5 := (hxf 5).symm.trans hS.s5
  have hq18 := (hxf 18).symm.trans hS.s18
  have hq19 := (hxf 19).symm.trans hS.s19
  have hq20 := (hxf 20).symm.trans hS.s20
  have hq26 := (hxf 26).symm.trans hS.s26
  have hq27 := (hxf 27).symm.trans hS.s27
  subst hxa
  conv => arg 4; simp only [fr, hq1, hq2, hq3, hq4, hq5, hq18, hq19, hq20, hq26, hq27]
  clear hxf hS  hq1 hq2 hq3 hq4 hq5 hq18 hq19 hq20 hq26 hq27
  conv => arg 2; whnf
  refine wp_seq_k (fun K1 hK1 => ?_)
  have HK1 : Hid _ := hK1
  clear hK1
  go_wp2_with fail
  refine hC1.mono ?_
  rintro e w1 ⟨gEc, cEc, rfl, hA1, hg1, hb1⟩
  clear hC1
  go_wp2_with fail
  refine HK1.out _ _ ?_
  clear HK1 K1
  exact Hn.out _ _ gEc cEc ⟨rfl, rfl, rfl, rfl, rfl, rfl, rfl, rfl, rfl, rfl, rfl, rfl⟩ hb1 hg1 hA1
end Go.Proofs.Ybulkekys
