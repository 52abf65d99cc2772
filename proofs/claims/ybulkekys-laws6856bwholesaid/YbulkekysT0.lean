import Derived.Test.YbulkekysT1c
namespace Go.Proofs.Ybulkekys
open Go.RowKit

/-- The argument 'adj'. -/
def RdR (w : World) (x : Option Addr) (len : Nat) (A : Nat → Option Addr) (L C : Nat → Nat) (f : Nat → Nat → Nat) : Prop :=
  ∀ i, i < len → ∃ b off, x = some ⟨b, off, none⟩ ∧ b < w.heap.size ∧ w.cell? ⟨b, off + i, none⟩ = some (.slice (A i) (L i) (C i)) ∧ RdN w .u16 (A i) (L i) (f i)
theorem RdR.below {w w' : World} {x : Option Addr} {len : Nat} {A : Nat → Option Addr} {L C : Nat → Nat} {f : Nat → Nat → Nat} (h : RdR w x len A L C f) (hb : Below w.heap.size w w') : RdR w' x len A L C f := fun i hi => by
  obtain ⟨b, off, e, hlt, hc, hr⟩ := h i hi
  exact ⟨b, off, e, Nat.lt_of_lt_of_le hlt hb.size, (hb.cell (p := ⟨b, off + i, none⟩) hlt).trans hc, hr.below hb⟩

theorem lsum_bound (L : Nat → Nat) (c : Nat) (h : ∀ i, L i ≤ c) : ∀ n, lsum L (fun _ => true) n ≤ n * c
  | 0 => by simp [lsum]
  | n + 1 => by
    have := lsum_bound L c h n
    have := h n
    simp only [lsum, if_true]
    rw [Nat.succ_mul]
    omega

set_option maxHeartbeats 8000000 in
set_option maxRecDepth 1000000 in
theorem ph0 (B : Nat) (w0 w : World) (x0 : Option Addr) (l0 : Nat) (c0 : Nat) (x1 : Option Addr) (l1 : Nat) (c1 : Nat) (x2 : Option Addr) (l2 : Nat) (c2 : Nat) (x3 : Option Addr) (l3 : Nat) (c3 : Nat) (x4 : Option Addr) (l4 : Nat) (c4 : Nat) (x5 : Option Addr) (l5 : Nat) (c5 : Nat) (mq : Nat) (hB : Below B w0 w) (hm0 : l0 ≤ maxLen) (hm5 : l5 ≤ maxLen)
    (a : Act) (hS : S0 a x0 l0 c0 x1 l1 c1 x2 l2 c2 x3 l3 c3 x4 l4 c4 x5 l5 c5 mq)
    (next : ∀ a', S0 a' x0 l0 c0 x1 l1 c1 x2 l2 c2 x3 l3 c3 x4 l4 c4 x5 l5 c5 mq → l0 ≤ 4096 → l5 ≤ 16384 → Code.wp Yba.prog (dropSeq 2 (Yba.f4.body.getD .skip)) (bodyPost Yba.prog Yba.f4 (LPost B w0)) a' w) :
    Code.wp Yba.prog (dropSeq 0 (Yba.f4.body.getD .skip)) (bodyPost Yba.prog Yba.f4 (LPost B w0)) a w := by
  have Hn : Hid _ := next
  have HB : Hid _ := hB
  clear next hB
  have h63 : maxLen = 9223372036854775807 := rfl
  rw [h63] at hm0 hm5
  clear h63
  by_cases h0 : l0 ≤ 4096
  · by_cases h5 : l5 ≤ 16384
    · have b1 : decide ((4096 : Int) < (l0 : Int)) = false := by simp; omega
      have b2 : decide ((16384 : Int) < (l5 : Int)) = false := by simp; omega
      obtain ⟨xf, hxa, hxf⟩ := fr_of a hS.sz hS.df
      have hq0 := (hxf 0).symm.trans hS.s0
      have hq1 := (hxf 1).symm.trans hS.s1
      have hq2 := (hxf 2).symm.trans hS.s2
      have hq3 := (hxf 3).symm.trans hS.s3
      have hq4 := (hxf 4).symm.trans hS.s4
      have hq5 := (hxf 5).symm.trans hS.s5
      have hq6 := (hxf 6).symm.trans hS.s6
      subst hxa
      conv => arg 4; simp only [fr, hq0, hq1, hq2, hq3, hq4, hq5, hq6]
      clear hxf hS  hq0 hq1 hq2 hq3 hq4 hq5 hq6
      conv => arg 2; whnf
      refine wp_seq_k (fun K1 hK1 => ?_)
      have HK1 : Hid _ := hK1
      clear hK1
      go_wp2_with fail
      refine HK1.out _ _ ?_
      clear HK1 K1
      refine wp_seq_k (fun K2 hK2 => ?_)
      have HK2 : Hid _ := hK2
      clear hK2
      go_wp2_with fail
      refine HK2.out _ _ ?_
      clear HK2 K2
      exact Hn.out _ ⟨rfl, rfl, rfl, rfl, rfl, rfl, rfl, rfl, rfl⟩ h0 h5
    · have b1 : decide ((4096 : Int) < (l0 : Int)) = false := by simp; omega
      have b2 : (16384 : Int) < (l5 : Int) := by omega
      obtain ⟨xf, hxa, hxf⟩ := fr_of a hS.sz hS.df
      have hq0 := (hxf 0).symm.trans hS.s0
      have hq1 := (hxf 1).symm.trans hS.s1
      have hq2 := (hxf 2).symm.trans hS.s2
      have hq3 := (hxf 3).symm.trans hS.s3
      have hq4 := (hxf 4).symm.trans hS.s4
      have hq5 := (hxf 5).symm.trans hS.s5
      have hq6 := (hxf 6).symm.trans hS.s6
      subst hxa
      conv => arg 4; simp only [fr, hq0, hq1, hq2, hq3, hq4, hq5, hq6]
      clear hxf hS  hq0 hq1 hq2 hq3 hq4 hq5 hq6
      conv => arg 2; whnf
      go_wp2
      go_ret
      exact ⟨rfl, HB.out⟩
  · have b1 : (4096 : Int) < (l0 : Int) := by omega
    obtain ⟨xf, hxa, hxf⟩ := fr_of a hS.sz hS.df
    have hq0 := (hxf 0).symm.trans hS.s0
    have hq1 := (hxf 1).symm.trans hS.s1
    have hq2 := (hxf 2).symm.trans hS.s2
    have hq3 := (hxf 3).symm.trans hS.s3
    have hq4 := (hxf 4).symm.trans hS.s4
    have hq5 := (hxf 5).symm.trans hS.s5
    have hq6 := (hxf 6).symm.trans hS.s6
    subst hxa
    conv => arg 4; simp only [fr, hq0, hq1, hq2, hq3, hq4, hq5, hq6]
    clear hxf hS  hq0 hq1 hq2 hq3 hq4 hq5 hq6
    conv => arg 2; whnf
    go_wp2
    go_ret
    exact ⟨rfl, HB.out⟩

set_option maxHeartbeats 8000000 in
set_option maxRecDepth 1000000 in
theorem ph2 (B : Nat) (w0 w : World) (x0 : Option Addr) (l0 : Nat) (c0 : Nat) (x1 : Option Addr) (l1 : Nat) (c1 : Nat) (x2 : Option Addr) (l2 : Nat) (c2 : Nat) (x3 : Option Addr) (l3 : Nat) (c3 : Nat) (x4 : Option Addr) (l4 : Nat) (c4 : Nat) (x5 : Option Addr) (l5 : Nat) (c5 : Nat) (mq : Nat) (A : Nat → Option Addr) (L C : Nat → Nat) (f : Nat → Nat → Nat) (hB : Below B w0 w) (hl0 : l0 ≤ 4096) (hL : ∀ i, L i ≤ 140737488355328)
    (hrd : RdR w x0 l0 A L C f)
    (a : Act) (hS : S0 a x0 l0 c0 x1 l1 c1 x2 l2 c2 x3 l3 c3 x4 l4 c4 x5 l5 c5 mq)
    (next : ∀ a', S0 a' x0 l0 c0 x1 l1 c1 x2 l2 c2 x3 l3 c3 x4 l4 c4 x5 l5 c5 mq → lsum L (fun _ => true) l0 ≤ 65536 → Code.wp Yba.prog (dropSeq 5 (Yba.f4.body.getD .skip)) (bodyPost Yba.prog Yba.f4 (LPost B w0)) a' w) :
    Code.wp Yba.prog (dropSeq 2 (Yba.f4.body.getD .skip)) (bodyPost Yba.prog Yba.f4 (LPost B w0)) a w := by
  have Hn : Hid _ := next
  have HB : Hid _ := hB
  have Hrd : Hid _ := hrd
  clear next hB hrd
  have Hbd : Hid (∀ i, i ≤ l0 → lsum L (fun _ => true) i ≤ 4096 * 140737488355328) := fun i hi => Nat.le_trans (lsum_bound L _ hL i) (Nat.mul_le_mul_right _ (by omega))
  obtain ⟨xf, hxa, hxf⟩ := fr_of a hS.sz hS.df
  have hq0 := (hxf 0).symm.trans hS.s0
  have hq1 := (hxf 1).symm.trans hS.s1
  have hq2 := (hxf 2).symm.trans hS.s2
  have hq3 := (hxf 3).symm.trans hS.s3
  have hq4 := (hxf 4).symm.trans hS.s4
  have hq5 := (hxf 5).symm.trans hS.s5
  have hq6 := (hxf 6).symm.trans hS.s6
  subst hxa
  conv => arg 4; simp only [fr, hq0, hq1, hq2, hq3, hq4, hq5, hq6]
  clear hxf hS  hq0 hq1 hq2 hq3 hq4 hq5 hq6
  conv => arg 2; whnf
  refine wp_seq_k (fun K1 hK1 => ?_)
  have HK1 : Hid _ := hK1
  clear hK1
  go_wp2_with fail
  refine HK1.out _ _ ?_
  clear HK1 K1
  refine wp_seq_k (fun K hK => ?_)
  have HK : Hid _ := hK
  clear hK
  go_wp2_with fail
  refine wp_loop (fun a w' => ∃ (i t : Nat), i ≤ l0 ∧ t = lsum L (fun _ => true) i ∧ a.tmps.getD 79 undef = .int .i64 (i : Int) ∧ a.tmps.getD 15 undef = .int .i64 (t : Int) ∧ a.tmps.getD 77 undef = .slice x0 l0 c0 ∧ a.tmps.getD 78 undef = .int .i64 (l0 : Int) ∧ S0 a x0 l0 c0 x1 l1 c1 x2 l2 c2 x3 l3 c3 x4 l4 c4 x5 l5 c5 mq ∧ w' = w) (fun a _ => l0 - (intOf (a.tmps.getD 79 undef)).toNat) ⟨0, 0, Nat.zero_le _, rfl, rfl, rfl, rfl, rfl, ⟨rfl, rfl, rfl, rfl, rfl, rfl, rfl, rfl, rfl⟩, rfl⟩ (fun a wr hI => ?_)
  obtain ⟨i, t, hi, ht, h79, h15, h77, h78, hS, rfl⟩ := hI
  have Hmo : Hid (l0 - (intOf (a.tmps.getD 79 undef)).toNat = l0 - i) := by show _ = _; rw [h79]; simp [intOf]
  have htb := Hbd.out i hi
  rw [← ht] at htb
  have Ht : Hid (t = lsum L (fun _ => true) i) := ht
  clear ht
  by_cases hlt : i < l0
  · obtain ⟨b, off, rfl, hbl, cX, _⟩ := Hrd.out i hlt
    have hLi := hL i
    have hs : lsum L (fun _ => true) (i + 1) = t + L i := by rw [Ht.out]; simp [lsum]
    have Hs : Hid (lsum L (fun _ => true) (i + 1) = t + L i) := hs
    clear hs
    generalize L i = y at *
    have hw : IntKind.i64.wrap ((t : Int) + (y : Int)) = (t : Int) + (y : Int) := IntWalk.i64_in _ (by omega)
    obtain ⟨xf, hxa, hxf⟩ := fr_of a hS.sz hS.df
    have hq0 := (hxf 0).symm.trans hS.s0
    have hq1 := (hxf 1).symm.trans hS.s1
    have hq2 := (hxf 2).symm.trans hS.s2
    have hq3 := (hxf 3).symm.trans hS.s3
    have hq4 := (hxf 4).symm.trans hS.s4
    have hq5 := (hxf 5).symm.trans hS.s5
    have hq6 := (hxf 6).symm.trans hS.s6
    have hq15 := (hxf 15).symm.trans h15
    have hq77 := (hxf 77).symm.trans h77
    have hq78 := (hxf 78).symm.trans h78
    have hq79 := (hxf 79).symm.trans h79
    subst hxa
    conv => arg 4; simp only [fr, hq0, hq1, hq2, hq3, hq4, hq5, hq6, hq15, hq77, hq78, hq79]
    clear hxf hS h15 h77 h78 h79 hq0 hq1 hq2 hq3 hq4 hq5 hq6 hq15 hq77 hq78 hq79
    go_wp2_with fail
    exact ⟨⟨i + 1, t + y, by omega, Hs.out.symm, by go_num, by go_num, rfl, rfl, ⟨rfl, rfl, rfl, rfl, rfl, rfl, rfl, rfl, rfl⟩, by first | rfl | trivial⟩, by rw [Hmo.out]; show l0 - ((i : Int) + 1).toNat < _; omega⟩
  · obtain rfl : i = l0 := by omega
    obtain ⟨xf, hxa, hxf⟩ := fr_of a hS.sz hS.df
    have hq0 := (hxf 0).symm.trans hS.s0
    have hq1 := (hxf 1).symm.trans hS.s1
    have hq2 := (hxf 2).symm.trans hS.s2
    have hq3 := (hxf 3).symm.trans hS.s3
    have hq4 := (hxf 4).symm.trans hS.s4
    have hq5 := (hxf 5).symm.trans hS.s5
    have hq6 := (hxf 6).symm.trans hS.s6
    have hq15 := (hxf 15).symm.trans h15
    have hq77 := (hxf 77).symm.trans h77
    have hq78 := (hxf 78).symm.trans h78
    have hq79 := (hxf 79).symm.trans h79
    subst hxa
    conv => arg 4; simp only [fr, hq0, hq1, hq2, hq3, hq4, hq5, hq6, hq15, hq77, hq78, hq79]
    clear hxf hS h15 h77 h78 h79 hq0 hq1 hq2 hq3 hq4 hq5 hq6 hq15 hq77 hq78 hq79
    go_wp2_with fail
    refine HK.out _ _ ?_
    clear HK
    by_cases hbig : 65536 < t
    · have b1 : (65536 : Int) < (t : Int) := by omega
      go_wp2
      go_ret
      exact ⟨rfl, HB.out⟩
    · have b1 : decide ((65536 : Int) < (t : Int)) = false := by simp; omega
      refine wp_seq_k (fun K3 hK3 => ?_)
      have HK3 : Hid _ := hK3
      clear hK3
      go_wp2_with fail
      refine HK3.out _ _ ?_
      clear HK3 K3
      exact Hn.out _ ⟨rfl, rfl, rfl, rfl, rfl, rfl, rfl, rfl, rfl⟩ (by rw [← Ht.out]; omega)

set_option maxHeartbeats 8000000 in
set_option maxRecDepth 1000000 in
theorem ph5 (Q : Exit → Act → World → Prop) (w : World) (x0 : Option Addr) (l0 : Nat) (c0 : Nat) (x1 : Option Addr) (l1 : Nat) (c1 : Nat) (x2 : Option Addr) (l2 : Nat) (c2 : Nat) (x3 : Option Addr) (l3 : Nat) (c3 : Nat) (x4 : Option Addr) (l4 : Nat) (c4 : Nat) (x5 : Option Addr) (l5 : Nat) (c5 : Nat) (mq : Nat) (n : Nat) (hl0 : l0 ≤ 4096) (hn : n = l0 + 1)
    (a : Act) (hS : S0 a x0 l0 c0 x1 l1 c1 x2 l2 c2 x3 l3 c3 x4 l4 c4 x5 l5 c5 mq)
    (next : ∀ a' w' gO gOc, S8 a' x0 l0 c0 x1 l1 c1 x2 l2 c2 x3 l3 c3 x4 l4 c4 x5 l5 c5 mq n gO gOc → Below w.heap.size w w' → w.heap.size ≤ gO → gO < gOc → gOc < w'.heap.size → Arr w' gO 33 n n (mr n fun _ => .slice none 0 0) → Arr w' gOc 33 n n (mr n fun _ => .slice none 0 0) → Code.wp Yba.prog (dropSeq 8 (Yba.f4.body.getD .skip)) Q a' w') :
    Code.wp Yba.prog (dropSeq 5 (Yba.f4.body.getD .skip)) Q a w := by
  obtain ⟨i33, hi33, hz330, hz331, hz332⟩ := info_parts info33
  have Hn : Hid _ := next
  clear next
  have e1 : (l0 : Int) + 1 = (n : Int) := by omega
  have hn2 : n ≤ 4097 := by omega
  have hw : IntKind.i64.wrap (n : Int) = (n : Int) := IntWalk.i64_in _ (by omega)
  clear hn
  obtain ⟨xf, hxa, hxf⟩ := fr_of a hS.sz hS.df
  have hq0 := (hxf 0).symm.trans hS.s0
  have hq1 := (hxf 1).symm.trans hS.s1
  have hq2 := (hxf 2).symm.trans hS.s2
  have hq3 := (hxf 3).symm.trans hS.s3
  have hq4 := (hxf 4).symm.trans hS.s4
  have hq5 := (hxf 5).symm.trans hS.s5
  have hq6 := (hxf 6).symm.trans hS.s6
  subst hxa
  conv => arg 4; simp only [fr, hq0, hq1, hq2, hq3, hq4, hq5, hq6]
  clear hxf hS  hq0 hq1 hq2 hq3 hq4 hq5 hq6
  conv => arg 2; whnf
  refine wp_seq_k (fun K1 hK1 => ?_)
  have HK1 : Hid _ := hK1
  clear hK1
  go_wp2_with fail
  refine HK1.out _ _ ?_
  clear HK1 K1
  refine wp_seq_k (fun K2 hK2 => ?_)
  have HK2 : Hid _ := hK2
  clear hK2
  go_wp2_with (at_make; refine wpList_make_arr rfl _ _ 32 rfl 33 i33 (.slice none 0 0) 24 Yba.underlying32 hi33 hz330 hz331 hz332 rfl _ _ _ _ n rfl rfl ?m0 ?m1 ?m2 ?m3 ?_)
  case m0 => first | rfl | omega
  case m1 => first | rfl | omega
  case m2 => omega
  case m3 => unfold maxLen; omega
  intro w1 hA1 hg1
  have hb1 : Below w.heap.size w w1 := (Below.refl _ _).grown hg1 (Nat.le_refl _) (fun k hk => by cases hk)
  have hlt1 := hA1.lt
  rw [mr_const] at hA1
  clear hg1
  go_wp2_with fail
  refine HK2.out _ _ ?_
  clear HK2 K2
  refine wp_seq_k (fun K3 hK3 => ?_)
  have HK3 : Hid _ := hK3
  clear hK3
  go_wp2_with (at_make; refine wpList_make_arr rfl _ _ 32 rfl 33 i33 (.slice none 0 0) 24 Yba.underlying32 hi33 hz330 hz331 hz332 rfl _ _ _ _ n rfl rfl ?m0 ?m1 ?m2 ?m3 ?_)
  case m0 => first | rfl | omega
  case m1 => first | rfl | omega
  case m2 => omega
  case m3 => unfold maxLen; omega
  intro w2 hA2 hg2
  have hb2 : Below w1.heap.size w1 w2 := (Below.refl _ _).grown hg2 (Nat.le_refl _) (fun k hk => by cases hk)
  have hlt2 := hA2.lt
  rw [mr_const] at hA2
  clear hg2
  go_wp2_with fail
  refine HK3.out _ _ ?_
  clear HK3 K3
  exact Hn.out _ _ w.heap.size w1.heap.size ⟨rfl, rfl, rfl, rfl, rfl, rfl, rfl, rfl, rfl, rfl, rfl, rfl⟩ (hb1.trans (hb2.mono (by omega))) (Nat.le_refl _) hlt1 hlt2 (hA1.below hb2 hlt1) hA2
end Go.Proofs.Ybulkekys
