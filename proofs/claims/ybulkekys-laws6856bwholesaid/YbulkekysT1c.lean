import Derived.Test.YbulkekysT2
import Derived.Test.YbulkekysLibB
namespace Go.Proofs.Ybulkekys
open Go.RowKit

/-- A row of numbers among the arguments. -/
def RdN (w : World) (k : IntKind) (x : Option Addr) (len : Nat) (f : Nat → Nat) : Prop :=
  ∀ i, i < len → ∃ b off, x = some ⟨b, off, none⟩ ∧ b < w.heap.size ∧ w.cell? ⟨b, off + i, none⟩ = some (.int k (f i : Int))
def RdB (w : World) (x : Option Addr) (len : Nat) (f : Nat → Bool) : Prop :=
  ∀ i, i < len → ∃ b off, x = some ⟨b, off, none⟩ ∧ b < w.heap.size ∧ w.cell? ⟨b, off + i, none⟩ = some (.bool (f i))
theorem RdN.below {w w' : World} {k : IntKind} {x : Option Addr} {len : Nat} {f : Nat → Nat} (h : RdN w k x len f) (hb : Below w.heap.size w w') : RdN w' k x len f := fun i hi => by
  obtain ⟨b, off, e, hlt, hc⟩ := h i hi
  exact ⟨b, off, e, Nat.lt_of_lt_of_le hlt hb.size, (hb.cell (p := ⟨b, off + i, none⟩) hlt).trans hc⟩
theorem RdB.below {w w' : World} {x : Option Addr} {len : Nat} {f : Nat → Bool} (h : RdB w x len f) (hb : Below w.heap.size w w') : RdB w' x len f := fun i hi => by
  obtain ⟨b, off, e, hlt, hc⟩ := h i hi
  exact ⟨b, off, e, Nat.lt_of_lt_of_le hlt hb.size, (hb.cell (p := ⟨b, off + i, none⟩) hlt).trans hc⟩
theorem nv_mr (n : Nat) (f : Nat → Nat) : nv .i64 ((List.range n).map f) = mr n fun i => .int .i64 (f i : Int) := by simp [nv, mr]
/-- A row that is written from the left. -/
def nTo (f : Nat → Nat) (p : Nat) : Nat → Value := fun i => .int .i64 ((if i < p then f i else 0 : Nat) : Int)
theorem nTo_step (f : Nat → Nat) (p : Nat) : nTo f (p + 1) = upd (nTo f p) p (.int .i64 (f p : Int)) := by
  funext i
  unfold nTo
  by_cases e : i = p
  · subst e; simp [upd_same]
  · rw [upd_other _ _ _ _ e]
    by_cases h : i < p
    · simp [h, show i < p + 1 by omega]
    · simp [h, show ¬ i < p + 1 by omega]
theorem nTo_full (n : Nat) (f : Nat → Nat) : mr n (nTo f n) = nv .i64 ((List.range n).map f) := by
  rw [nv_mr]
  exact mr_congr _ _ _ (fun j hj => by simp [nTo, hj])
theorem nTo_zero (n : Nat) (f : Nat → Nat) : (mr n fun _ => .int .i64 0) = mr n (nTo f 0) := mr_congr _ _ _ (fun j _ => by simp [nTo])
theorem mr_oneB (n : Nat) (f : Nat → Bool) : ∀ u ∈ mr n (fun i => .bool (f i)), u.oneCell' = true := by
  intro u hu
  simp only [mr, List.mem_map] at hu
  obtain ⟨_, _, rfl⟩ := hu
  rfl

set_option maxHeartbeats 8000000 in
set_option maxRecDepth 1000000 in
theorem ph19 (Q : Exit → Act → World → Prop) (w : World) (x5 : Option Addr) (l5 : Nat) (c5 : Nat) (n : Nat) (gO : Nat) (gOc : Nat) (mm : Nat) (gE : Nat) (gEc : Nat) (cEc : Nat) (gB : Nat) (gI : Nat) (gA : Nat) (gL : Nat) (gK : Nat) (hl : l5 ≤ 16384)
    (a : Act) (hS : S19 a x5 l5 c5 n gO gOc mm gE gEc cEc gB gI gA gL gK)
    (next : ∀ a' w' gV, S20 a' x5 l5 c5 n gO gOc mm gE gEc cEc gB gI gA gL gK gV l5 → Below w.heap.size w w' → gV = w.heap.size → Arr w' gV 3 l5 l5 (mr l5 fun _ => .int .i64 0) → Code.wp Yba.prog (dropSeq 20 (Yba.f4.body.getD .skip)) Q a' w') :
    Code.wp Yba.prog (dropSeq 19 (Yba.f4.body.getD .skip)) Q a w := by
  obtain ⟨i3, hi3, hz30, hz31, hz32⟩ := info_parts I.infoE
  have Hn : Hid _ := next
  clear next
  obtain ⟨xf, hxa, hxf⟩ := fr_of a hS.sz hS.df
  have hq5 := (hxf 5).symm.trans hS.s5
  have hq18 := (hxf 18).symm.trans hS.s18
  have hq19 := (hxf 19).symm.trans hS.s19
  have hq20 := (hxf 20).symm.trans hS.s20
  have hq26 := (hxf 26).symm.trans hS.s26
  have hq27 := (hxf 27).symm.trans hS.s27
  have hq29 := (hxf 29).symm.trans hS.s29
  have hq30 := (hxf 30).symm.trans hS.s30
  have hq31 := (hxf 31).symm.trans hS.s31
  have hq32 := (hxf 32).symm.trans hS.s32
  have hq33 := (hxf 33).symm.trans hS.s33
  have hq34 := (hxf 34).symm.trans hS.s34
  subst hxa
  conv => arg 4; simp only [fr, hq5, hq18, hq19, hq20, hq26, hq27, hq29, hq30, hq31, hq32, hq33, hq34]
  clear hxf hS  hq5 hq18 hq19 hq20 hq26 hq27 hq29 hq30 hq31 hq32 hq33 hq34
  conv => arg 2; whnf
  refine wp_seq_k (fun K1 hK1 => ?_)
  have HK1 : Hid _ := hK1
  clear hK1
  go_wp2_with (at_make; refine wpList_make_arr rfl _ _ 33 rfl 3 i3 (.int .i64 0) 8 Yba.underlying33 hi3 hz30 hz31 hz32 rfl _ _ _ _ l5 rfl rfl ?m0 ?m1 ?m2 ?m3 ?_)
  case m0 => first | rfl | omega
  case m1 => first | rfl | omega
  case m2 => omega
  case m3 => unfold maxLen; omega
  intro w1 hA1 hg1
  have hb1 : Below w.heap.size w w1 := (Below.refl _ _).grown hg1 (Nat.le_refl _) (fun k hk => by cases hk)
  have hlt1 := hA1.lt
  rw [mr_const] at hA1
  clear hg1
  go_wp2_with fail
  refine HK1.out _ _ ?_
  clear HK1 K1
  exact Hn.out _ _ _ ⟨rfl, rfl, rfl, rfl, rfl, rfl, rfl, rfl, rfl, rfl, rfl, rfl, rfl, rfl, rfl⟩ hb1 rfl hA1

set_option maxHeartbeats 8000000 in
set_option maxRecDepth 1000000 in
theorem ph20 (Q : Exit → Act → World → Prop) (w : World) (B1 : Nat) (x5 : Option Addr) (l5 : Nat) (c5 : Nat) (n : Nat) (gO : Nat) (gOc : Nat) (mm : Nat) (gE : Nat) (gEc : Nat) (cEc : Nat) (gB : Nat) (gI : Nat) (gA : Nat) (gL : Nat) (gK : Nat) (gV : Nat) (f : Nat → Nat) (hn : n ≤ 4097) (hn0 : 0 < n) (hl : l5 ≤ 16384) (hf : ∀ i, f i ≤ 65535)
    (hrd : ∀ w', Below B1 w w' → RdN w' .u16 x5 l5 f) (hb : B1 ≤ gV) (aV : Arr w gV 3 l5 l5 (mr l5 fun _ => .int .i64 0))
    (a : Act) (hS : S20 a x5 l5 c5 n gO gOc mm gE gEc cEc gB gI gA gL gK gV l5)
    (next : ∀ a' w', S20 a' x5 l5 c5 n gO gOc mm gE gEc cEc gB gI gA gL gK gV l5 → Below B1 w w' → Arr w' gV 3 l5 l5 (nv .i64 ((List.range l5).map fun i => f i % n)) → Code.wp Yba.prog (dropSeq 21 (Yba.f4.body.getD .skip)) Q a' w') :
    Code.wp Yba.prog (dropSeq 20 (Yba.f4.body.getD .skip)) Q a w := by
  have Hn : Hid _ := next
  have Hrd : Hid _ := hrd
  clear next hrd
  rw [nTo_zero l5 (fun i => f i % n)] at aV
  obtain ⟨xf, hxa, hxf⟩ := fr_of a hS.sz hS.df
  have hq5 := (hxf 5).symm.trans hS.s5
  have hq18 := (hxf 18).symm.trans hS.s18
  have hq19 := (hxf 19).symm.trans hS.s19
  have hq20 := (hxf 20).symm.trans hS.s20
  have hq26 := (hxf 26).symm.trans hS.s26
  have hq27 := (hxf 27).symm.trans hS.s27
  have hq29 := (hxf 29).symm.trans hS.s29
  have hq30 := (hxf 30).symm.trans hS.s30
  have hq31 := (hxf 31).symm.trans hS.s31
  have hq32 := (hxf 32).symm.trans hS.s32
  have hq33 := (hxf 33).symm.trans hS.s33
  have hq34 := (hxf 34).symm.trans hS.s34
  have hq39 := (hxf 39).symm.trans hS.s39
  subst hxa
  conv => arg 4; simp only [fr, hq5, hq18, hq19, hq20, hq26, hq27, hq29, hq30, hq31, hq32, hq33, hq34, hq39]
  clear hxf hS  hq5 hq18 hq19 hq20 hq26 hq27 hq29 hq30 hq31 hq32 hq33 hq34 hq39
  conv => arg 2; whnf
  refine wp_seq_k (fun K hK => ?_)
  have HK : Hid _ := hK
  clear hK
  go_wp2_with fail
  refine wp_loop (fun a w' => ∃ j : Nat, j ≤ l5 ∧ a.tmps.getD 242 undef = .int .i64 (j : Int) ∧ a.tmps.getD 240 undef = .slice x5 l5 c5 ∧ a.tmps.getD 241 undef = .int .i64 (l5 : Int) ∧ S20 a x5 l5 c5 n gO gOc mm gE gEc cEc gB gI gA gL gK gV l5 ∧ Below B1 w w' ∧ Arr w' gV 3 l5 l5 (mr l5 (nTo (fun i => f i % n) j))) (fun a _ => l5 - (intOf (a.tmps.getD 242 undef)).toNat) ⟨0, Nat.zero_le _, rfl, rfl, rfl, ⟨rfl, rfl, rfl, rfl, rfl, rfl, rfl, rfl, rfl, rfl, rfl, rfl, rfl, rfl, rfl⟩, Below.refl _ _, aV⟩ (fun a wr hI => ?_)
  clear aV
  obtain ⟨j, hj, h242, h240, h241, hS, hB, hV⟩ := hI
  have Hmo : Hid (l5 - (intOf (a.tmps.getD 242 undef)).toNat = l5 - j) := by show _ = _; rw [h242]; simp [intOf]
  by_cases hlt : j < l5
  · obtain ⟨b, off, rfl, hbl, cX⟩ := Hrd.out wr hB j hlt
    have hfj := hf j
    have hV2 := hV.setMr j (.int .i64 ((f j % n : Nat) : Int))
    rw [← nTo_step (fun i => f i % n) j] at hV2
    have hB2 := below_set hB gV j (.int .i64 ((f j % n : Nat) : Int)) hb
    have cV := hV.mr j hlt
    have fV := hV.fr j
    clear hV hB
    generalize f j = x at *
    have hwx : IntKind.i64.wrap (x : Int) = (x : Int) := IntWalk.i64_in _ (by omega)
    have htx : (x : Int).tmod (n : Int) = ((x % n : Nat) : Int) := by rw [Int.tmod_eq_emod_of_nonneg (by omega)]; simp
    have hn1 : ¬ n = 0 := by omega
    generalize x % n = y at *
    obtain ⟨xf, hxa, hxf⟩ := fr_of a hS.sz hS.df
    have hq5 := (hxf 5).symm.trans hS.s5
    have hq18 := (hxf 18).symm.trans hS.s18
    have hq19 := (hxf 19).symm.trans hS.s19
    have hq20 := (hxf 20).symm.trans hS.s20
    have hq26 := (hxf 26).symm.trans hS.s26
    have hq27 := (hxf 27).symm.trans hS.s27
    have hq29 := (hxf 29).symm.trans hS.s29
    have hq30 := (hxf 30).symm.trans hS.s30
    have hq31 := (hxf 31).symm.trans hS.s31
    have hq32 := (hxf 32).symm.trans hS.s32
    have hq33 := (hxf 33).symm.trans hS.s33
    have hq34 := (hxf 34).symm.trans hS.s34
    have hq39 := (hxf 39).symm.trans hS.s39
    have hq240 := (hxf 240).symm.trans h240
    have hq241 := (hxf 241).symm.trans h241
    have hq242 := (hxf 242).symm.trans h242
    subst hxa
    conv => arg 4; simp only [fr, hq5, hq18, hq19, hq20, hq26, hq27, hq29, hq30, hq31, hq32, hq33, hq34, hq39, hq240, hq241, hq242]
    clear hxf hS h240 h241 h242 hq5 hq18 hq19 hq20 hq26 hq27 hq29 hq30 hq31 hq32 hq33 hq34 hq39 hq240 hq241 hq242
    go_wp2_with fail
    exact ⟨⟨j + 1, by omega, by go_num, rfl, rfl, ⟨rfl, rfl, rfl, rfl, rfl, rfl, rfl, rfl, rfl, rfl, rfl, rfl, rfl, rfl, rfl⟩, hB2, hV2⟩, by rw [Hmo.out]; show l5 - ((j : Int) + 1).toNat < _; omega⟩
  · obtain rfl : j = l5 := by omega
    rw [nTo_full] at hV
    obtain ⟨xf, hxa, hxf⟩ := fr_of a hS.sz hS.df
    have hq5 := (hxf 5).symm.trans hS.s5
    have hq18 := (hxf 18).symm.trans hS.s18
    have hq19 := (hxf 19).symm.trans hS.s19
    have hq20 := (hxf 20).symm.trans hS.s20
    have hq26 := (hxf 26).symm.trans hS.s26
    have hq27 := (hxf 27).symm.trans hS.s27
    have hq29 := (hxf 29).symm.trans hS.s29
    have hq30 := (hxf 30).symm.trans hS.s30
    have hq31 := (hxf 31).symm.trans hS.s31
    have hq32 := (hxf 32).symm.trans hS.s32
    have hq33 := (hxf 33).symm.trans hS.s33
    have hq34 := (hxf 34).symm.trans hS.s34
    have hq39 := (hxf 39).symm.trans hS.s39
    have hq240 := (hxf 240).symm.trans h240
    have hq241 := (hxf 241).symm.trans h241
    have hq242 := (hxf 242).symm.trans h242
    subst hxa
    conv => arg 4; simp only [fr, hq5, hq18, hq19, hq20, hq26, hq27, hq29, hq30, hq31, hq32, hq33, hq34, hq39, hq240, hq241, hq242]
    clear hxf hS h240 h241 h242 hq5 hq18 hq19 hq20 hq26 hq27 hq29 hq30 hq31 hq32 hq33 hq34 hq39 hq240 hq241 hq242
    go_wp2_with fail
    exact HK.out _ _ (Hn.out _ _ ⟨rfl, rfl, rfl, rfl, rfl, rfl, rfl, rfl, rfl, rfl, rfl, rfl, rfl, rfl, rfl⟩ hB hV)

set_option maxHeartbeats 8000000 in
set_option maxRecDepth 1000000 in
theorem ph21 (Q : Exit → Act → World → Prop) (w : World) (x5 : Option Addr) (l5 : Nat) (c5 : Nat) (n : Nat) (gO : Nat) (gOc : Nat) (mm : Nat) (gE : Nat) (gEc : Nat) (cEc : Nat) (gB : Nat) (gI : Nat) (gA : Nat) (gL : Nat) (gK : Nat) (gV : Nat) (lv : Nat) (vs : List Nat) (bg0 : Nat → Bool) (hmm : mm ≤ 5000) (hl : lv ≤ 16384)
    (aV : Arr w gV 3 lv lv (nv .i64 vs)) (aB : Arr w gB 4 mm mm (mr mm fun i => .bool (bg0 i)))
    (a : Act) (hS : S20 a x5 l5 c5 n gO gOc mm gE gEc cEc gB gI gA gL gK gV lv)
    (next : ∀ a' w' gVc cVc gBc cBc, S23 a' n gO gOc mm gE gEc cEc gB gI gA gL gK gV lv gVc cVc gBc cBc → Below w.heap.size w w' → w.heap.size ≤ gVc → w.heap.size ≤ gBc → Arr w' gVc 3 lv cVc (nv .i64 vs) → Arr w' gBc 4 mm cBc (mr mm fun i => .bool (bg0 i)) → Code.wp Yba.prog (dropSeq 23 (Yba.f4.body.getD .skip)) Q a' w') :
    Code.wp Yba.prog (dropSeq 21 (Yba.f4.body.getD .skip)) Q a w := by
  have Hn : Hid _ := next
  clear next
  have hC1 := I.clone_any gV lv lv _ w aV (nv_one _ _) (by omega)
  obtain ⟨xf, hxa, hxf⟩ := fr_of a hS.sz hS.df
  have hq5 := (hxf 5).symm.trans hS.s5
  have hq18 := (hxf 18).symm.trans hS.s18
  have hq19 := (hxf 19).symm.trans hS.s19
  have hq20 := (hxf 20).symm.trans hS.s20
  have hq26 := (hxf 26).symm.trans hS.s26
  have hq27 := (hxf 27).symm.trans hS.s27
  have hq29 := (hxf 29).symm.trans hS.s29
  have hq30 := (hxf 30).symm.trans hS.s30
  have hq31 := (hxf 31).symm.trans hS.s31
  have hq32 := (hxf 32).symm.trans hS.s32
  have hq33 := (hxf 33).symm.trans hS.s33
  have hq34 := (hxf 34).symm.trans hS.s34
  have hq39 := (hxf 39).symm.trans hS.s39
  subst hxa
  conv => arg 4; simp only [fr, hq5, hq18, hq19, hq20, hq26, hq27, hq29, hq30, hq31, hq32, hq33, hq34, hq39]
  clear hxf hS  hq5 hq18 hq19 hq20 hq26 hq27 hq29 hq30 hq31 hq32 hq33 hq34 hq39
  conv => arg 2; whnf
  refine wp_seq_k (fun K1 hK1 => ?_)
  have HK1 : Hid _ := hK1
  clear hK1
  go_wp2_with fail
  refine hC1.mono ?_
  rintro e w1 ⟨gVc, cVc, rfl, hA1, hg1, hb1⟩
  clear hC1
  go_wp2_with fail
  refine HK1.out _ _ ?_
  clear HK1 K1
  have hC2 := cloneB_any gB mm mm _ w1 (aB.below hb1 aB.lt) (mr_oneB _ _) (by omega)
  refine wp_seq_k (fun K2 hK2 => ?_)
  have HK2 : Hid _ := hK2
  clear hK2
  go_wp2_with fail
  refine hC2.mono ?_
  rintro e w2 ⟨gBc, cBc, rfl, hA2, hg2, hb2⟩
  clear hC2
  go_wp2_with fail
  refine HK2.out _ _ ?_
  clear HK2 K2
  have hs := hb1.size
  exact Hn.out _ _ gVc cVc gBc cBc ⟨rfl, rfl, rfl, rfl, rfl, rfl, rfl, rfl, rfl, rfl, rfl, rfl, rfl, rfl, rfl, rfl⟩ (hb1.trans (hb2.mono hs)) hg1 (by omega) (hA1.below hb2 hA1.lt) hA2
end Go.Proofs.Ybulkekys
