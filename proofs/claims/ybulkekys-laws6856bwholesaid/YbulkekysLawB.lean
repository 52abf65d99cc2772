import Derived.Test.YbulkekysT33
import Derived.Test.YbulkekysT18
import Derived.Test.YbulkekysT1a
import Derived.Test.YbulkekysT08
import Derived.Test.YbulkekysT3
namespace Go.Proofs.Ybulkekys
open Go.RowKit

theorem lsum_fcongr (f g : Nat → Nat) (K : Nat → Bool) : ∀ n, (∀ p, p < n → f p = g p) → lsum f K n = lsum g K n
  | 0, _ => rfl
  | n + 1, h => by rw [lsum, lsum, lsum_fcongr f g K n (fun p hp => h p (by omega)), h n (by omega)]
theorem inTo_all (il : Nat → Nat) (mm : Nat) (h : ∀ j, mm ≤ j → il j = 0) : inTo il mm = fun j => mkIn (il j) := by
  funext j
  unfold inTo
  by_cases e : j < mm
  · rw [if_pos e]
  · rw [if_neg e, h j (by omega)]
theorem atTo_all (li : Nat → Bool) (mm : Nat) (h : ∀ j, mm ≤ j → li j = false) : atTo li mm = fun j => mkAt (li j) := by
  funext j
  unfold atTo
  by_cases e : j < mm
  · rw [if_pos e]
  · rw [if_neg e, h j (by omega)]
theorem nTo_all (il : Nat → Nat) (mm : Nat) (h : ∀ j, mm ≤ j → il j = 0) : nTo il mm = fun j => .int .i64 (il j : Int) := by
  funext j
  unfold nTo
  by_cases e : j < mm
  · rw [if_pos e]
  · rw [if_neg e, h j (by omega)]
theorem lnTo_all (li : Nat → Bool) (mm : Nat) (h : ∀ j, mm ≤ j → li j = false) : lnTo li mm = fun j => .bool (li j) := by
  funext j
  unfold lnTo
  by_cases e : j < mm
  · rw [if_pos e]
  · rw [if_neg e, h j (by omega)]
theorem oTo_all (O : Nat → List Nat) (l : Nat) (h : ∀ j, l ≤ j → O j = []) : oTo O l = O := by
  funext j
  unfold oTo
  by_cases e : j < l
  · rw [if_pos e]
  · rw [if_neg e, h j (by omega)]

set_option maxHeartbeats 8000000 in
set_option maxRecDepth 1000000 in
theorem law_body (W : World) (x0 : Option Addr) (l0 : Nat) (c0 : Nat) (x1 : Option Addr) (l1 : Nat) (c1 : Nat) (x2 : Option Addr) (l2 : Nat) (c2 : Nat) (x3 : Option Addr) (l3 : Nat) (c3 : Nat) (x4 : Option Addr) (l4 : Nat) (c4 : Nat) (x5 : Option Addr) (l5 : Nat) (c5 : Nat) (mq : Nat) (A : Nat → Option Addr) (L C : Nat → Nat) (f : Nat → Nat → Nat) (mk en lk : Nat → Bool) (ir fv : Nat → Nat)
    (hm0 : l0 ≤ maxLen) (hm5 : l5 ≤ maxLen) (hmq : mq ≤ 65535) (hL : ∀ i, L i ≤ 140737488355328) (hf : ∀ i k, f i k ≤ 65535) (hir : ∀ i, ir i ≤ 255) (hfv : ∀ i, fv i ≤ 65535)
    (rd0 : RdR W x0 l0 A L C f) (rd1 : RdB W x1 l1 mk) (rd2 : RdB W x2 l2 en) (rd3 : RdB W x3 l3 lk) (rd4 : RdN W .u8 x4 l4 ir) (rd5 : RdN W .u16 x5 l5 fv)
    (a : Act) (hS : S0 a x0 l0 c0 x1 l1 c1 x2 l2 c2 x3 l3 c3 x4 l4 c4 x5 l5 c5 mq) :
    Code.wp Yba.prog (dropSeq 0 (Yba.f4.body.getD .skip)) (bodyPost Yba.prog Yba.f4 (LPost W.heap.size W)) a W := by
  refine ph0 _ W W x0 l0 c0 x1 l1 c1 x2 l2 c2 x3 l3 c3 x4 l4 c4 x5 l5 c5 mq (Below.refl _ _) hm0 hm5 a hS (fun a hS h0 h5 => ?_)
  refine ph2 _ W W x0 l0 c0 x1 l1 c1 x2 l2 c2 x3 l3 c3 x4 l4 c4 x5 l5 c5 mq A L C f (Below.refl _ _) h0 hL rd0 a hS (fun a hS hT0 => ?_)
  obtain ⟨n, hn⟩ : ∃ n, n = l0 + 1 := ⟨_, rfl⟩
  have hn2 : n ≤ 4097 := by omega
  have hn0 : 0 < n := by omega
  refine ph5 _ W x0 l0 c0 x1 l1 c1 x2 l2 c2 x3 l3 c3 x4 l4 c4 x5 l5 c5 mq n h0 hn a hS (fun a w1 gO gOc hS hb1 ho1 ho2 ho3 aO1 aOc1 => ?_)
  obtain ⟨O, hOd⟩ : ∃ O : Nat → List Nat, O = fun i => if i < l0 then (List.range (L i)).map (fun k => f i k % n) else [] := ⟨_, rfl⟩
  have hOi : ∀ i, i < l0 → O i = (List.range (L i)).map fun k => f i k % n := fun i hi => by rw [hOd]; simp [hi]
  have hOo : ∀ i, l0 ≤ i → O i = [] := fun i hi => by rw [hOd]; simp [show ¬ i < l0 by omega]
  have hOn : ∀ p, p < n → ∀ h ∈ O p, h < n := fun p _ h hh => by
    by_cases e : p < l0
    · rw [hOi p e, List.mem_map] at hh
      obtain ⟨k, _, rfl⟩ := hh
      exact Nat.mod_lt _ hn0
    · rw [hOo p (by omega)] at hh; cases hh
  have hT : lsum (fun p => (O p).length) (fun _ => true) n ≤ 65536 := by
    rw [hn, lsum, hOo l0 (Nat.le_refl _), lsum_fcongr _ L _ l0 (fun p hp => by rw [hOi p hp]; simp)]
    simpa using hT0
  have hOl : ∀ p, p < n → (O p).length ≤ 65536 := fun p hp => Nat.le_trans (lsum_ge (fun p => (O p).length) p n hp) hT
  have e0 : oTo O 0 = fun _ => [] := by funext j; simp [oTo]
  refine ph8 _ W.heap.size w1.heap.size W w1 x0 l0 c0 x1 l1 c1 x2 l2 c2 x3 l3 c3 x4 l4 c4 x5 l5 c5 mq n gO gOc A L C f O hn h0 (fun i hi => Nat.le_trans (lsum_ge L i l0 hi) hT0) hf hOi (fun w' hb => rd0.below hb) ⟨hb1, Nat.le_refl _, aO1, aOc1, by rw [e0]; exact RO.start, by rw [e0]; exact RO.start, by omega⟩ a hS (fun a w2 R rc hS hM8 => ?_)
  have rO := hM8.rO
  have rC := hM8.rC
  rw [oTo_all O l0 hOo] at rO rC
  have C0_2 := hM8.hB
  have z2 := C0_2.size
  have aO := hM8.aO
  have aOc := hM8.aC
  have zO := aO.lt
  have zOc := aOc.lt
  refine ph9 _ w2 x1 l1 c1 x2 l2 c2 x3 l3 c3 x4 l4 c4 x5 l5 c5 mq n gO gOc hn2 hmq a hS (fun a w3 mm gE hS hmmd hb3 hgE aE3 => ?_)
  have hmm : mm ≤ n := by rw [hmmd]; have := Nat.mod_lt mq (show 0 < n + 1 by omega); omega
  have z3 := hb3.size
  have C0_3 : Below W.heap.size W w3 := C0_2.trans (hb3.mono (by omega))
  have C2_3 : Below w2.heap.size w2 w3 := hb3
  obtain ⟨E, hE⟩ : ∃ E : Nat → Bool, ∀ i, E i = (decide (i < l2) && en i) := ⟨_, fun _ => rfl⟩
  refine ph11 _ w3 w2.heap.size x1 l1 c1 x2 l2 c2 x3 l3 c3 x4 l4 c4 x5 l5 c5 n gO gOc mm gE E en hn2 (fun w' hb => rd2.below (C0_3.trans (hb.mono (by omega)))) (fun i _ => hE i) (by omega) aE3 a hS (fun a w4 hS hb4 aE => ?_)
  have z4 := hb4.size
  have C0_4 : Below W.heap.size W w4 := C0_3.trans (hb4.mono (by omega))
  have C2_4 : Below w2.heap.size w2 w4 := C2_3.trans (hb4.mono (by omega))
  have zE := aE.lt
  refine ph12 _ w4 x1 l1 c1 x2 l2 c2 x3 l3 c3 x4 l4 c4 x5 l5 c5 n gO gOc mm gE E hn2 aE a hS (fun a w5 gEc cEc hS hb5 hgEc aEc => ?_)
  have z5 := hb5.size
  have C0_5 : Below W.heap.size W w5 := C0_4.trans (hb5.mono (by omega))
  have C2_5 : Below w2.heap.size w2 w5 := C2_4.trans (hb5.mono (by omega))
  have C4_5 : Below w4.heap.size w4 w5 := hb5
  have zEc := aEc.lt
  obtain ⟨bg0, hbgd⟩ : ∃ g : Nat → Bool, ∀ i, g i = (decide (i < mm) && (decide (i < l1) && mk i)) := ⟨_, fun _ => rfl⟩
  obtain ⟨li, hlid⟩ : ∃ g : Nat → Bool, ∀ i, g i = (decide (i < mm) && (decide (i < l3) && lk i)) := ⟨_, fun _ => rfl⟩
  obtain ⟨il, hild⟩ : ∃ g : Nat → Nat, ∀ i, g i = if i < mm then (if i < l4 then ir i % 4 else 0) else 0 := ⟨_, fun _ => rfl⟩
  have hbg0 : ∀ h, mm ≤ h → bg0 h = false := fun h hh => by rw [hbgd]; simp; omega
  have hli0 : ∀ h, mm ≤ h → li h = false := fun h hh => by rw [hlid]; simp; omega
  have hil0 : ∀ h, mm ≤ h → il h = 0 := fun h hh => by rw [hild]; simp; omega
  have hil3 : ∀ h, il h ≤ 3 := fun h => by rw [hild]; split; (split <;> omega); omega
  refine ph13 _ w5 x1 l1 c1 x3 l3 c3 x4 l4 c4 x5 l5 c5 n gO gOc mm gE gEc cEc hn2 hmm bg0 li il a hS (fun a w6 gB gI gA gL gK b1 hS hord1 hord2 hM => ?_)
  refine ph18 _ w5.heap.size b1 w5 w6 x1 l1 c1 x3 l3 c3 x4 l4 c4 x5 l5 c5 n gO gOc mm gE gEc cEc gB gI gA gL gK bg0 li mk lk il ir hmm hn2 hir (fun w' hb => rd1.below (C0_5.trans (hb.mono (by omega)))) (fun w' hb => rd3.below (C0_5.trans (hb.mono (by omega)))) (fun w' hb => rd4.below (C0_5.trans (hb.mono (by omega)))) (fun i hi => by rw [hbgd]; simp [hi]) (fun i hi => by rw [hild, if_pos hi]) (fun i hi => by rw [hlid]; simp [hi]) hM a hS (fun a w7 inV atV hS hM7 => ?_)
  clear hM
  have hb7 := hM7.hB
  have z7 := hb7.size
  have C0_7 : Below W.heap.size W w7 := C0_5.trans (hb7.mono (by omega))
  have C2_7 : Below w2.heap.size w2 w7 := C2_5.trans (hb7.mono (by omega))
  have C4_7 : Below w4.heap.size w4 w7 := C4_5.trans (hb7.mono (by omega))
  have C5_7 : Below w5.heap.size w5 w7 := hb7
  have ri := hM7.ri
  rw [inTo_all il mm hil0, atTo_all li mm hli0] at ri
  have aB := hM7.aB
  rw [lnTo_all bg0 mm hbg0] at aB
  have aL := hM7.aL
  rw [nTo_all il mm hil0] at aL
  have aK := hM7.aK
  rw [lnTo_all li mm hli0] at aK
  have aI := hM7.aI
  have aA := hM7.aA
  have lB := hM7.lB
  have lI := hM7.lI
  have lA := hM7.lA
  have lL := hM7.lL
  have lK := hM7.lK
  have hris := ri.hs
  refine ph19 _ w7 x5 l5 c5 n gO gOc mm gE gEc cEc gB gI gA gL gK h5 a hS (fun a w8 gV hS hb8 hgV aV8 => ?_)
  have z8 := hb8.size
  have C0_8 : Below W.heap.size W w8 := C0_7.trans (hb8.mono (by omega))
  have C2_8 : Below w2.heap.size w2 w8 := C2_7.trans (hb8.mono (by omega))
  have C4_8 : Below w4.heap.size w4 w8 := C4_7.trans (hb8.mono (by omega))
  have C5_8 : Below w5.heap.size w5 w8 := C5_7.trans (hb8.mono (by omega))
  have C7_8 : Below w7.heap.size w7 w8 := hb8
  obtain ⟨vs, hvsd⟩ : ∃ vs, vs = (List.range l5).map fun i => fv i % n := ⟨_, rfl⟩
  have hvsl : vs.length = l5 := by rw [hvsd]; simp
  have hvn : ∀ v ∈ vs, v < n := fun v hv => by
    rw [hvsd, List.mem_map] at hv
    obtain ⟨k, _, rfl⟩ := hv
    exact Nat.mod_lt _ hn0
  refine ph20 _ w8 w7.heap.size x5 l5 c5 n gO gOc mm gE gEc cEc gB gI gA gL gK gV fv hn2 hn0 h5 hfv (fun w' hb => rd5.below (C0_8.trans (hb.mono (by omega)))) (by omega) aV8 a hS (fun a w9 hS hb9 aV => ?_)
  have z9 := hb9.size
  have C0_9 : Below W.heap.size W w9 := C0_8.trans (hb9.mono (by omega))
  have C2_9 : Below w2.heap.size w2 w9 := C2_8.trans (hb9.mono (by omega))
  have C4_9 : Below w4.heap.size w4 w9 := C4_8.trans (hb9.mono (by omega))
  have C5_9 : Below w5.heap.size w5 w9 := C5_8.trans (hb9.mono (by omega))
  have C7_9 : Below w7.heap.size w7 w9 := C7_8.trans (hb9.mono (by omega))
  rw [← hvsd] at aV
  have zV := aV.lt
  obtain ⟨lv, hlvd⟩ : ∃ lv, lv = l5 := ⟨_, rfl⟩
  rw [← hlvd] at hS aV hvsl h5
  refine ph21 _ w9 x5 lv c5 n gO gOc mm gE gEc cEc gB gI gA gL gK gV lv vs bg0 (by omega) h5 aV (aB.below C7_9 aB.lt) a hS (fun a w10 gVc cVc gBc cBc hS hb10 hgVc hgBc aVc aBc => ?_)
  have z10 := hb10.size
  have C0_10 : Below W.heap.size W w10 := C0_9.trans (hb10.mono (by omega))
  have C2_10 : Below w2.heap.size w2 w10 := C2_9.trans (hb10.mono (by omega))
  have C4_10 : Below w4.heap.size w4 w10 := C4_9.trans (hb10.mono (by omega))
  have C5_10 : Below w5.heap.size w5 w10 := C5_9.trans (hb10.mono (by omega))
  have C7_10 : Below w7.heap.size w7 w10 := C7_9.trans (hb10.mono (by omega))
  have C9_10 : Below w9.heap.size w9 w10 := hb10
  have zVc := aVc.lt
  have zBc := aBc.lt
  have aV10 := aV.below C9_10 aV.lt
  refine ph23 _ w10 n gO gOc mm gE gEc cEc gB gI gA gL gK gV lv gVc cVc gBc cBc hn2 a hS (fun a w11 gP gQ hS hb11 hgP hgQ aP11 aQ11 => ?_)
  have z11 := hb11.size
  have C0_11 : Below W.heap.size W w11 := C0_10.trans (hb11.mono (by omega))
  have C2_11 : Below w2.heap.size w2 w11 := C2_10.trans (hb11.mono (by omega))
  have C4_11 : Below w4.heap.size w4 w11 := C4_10.trans (hb11.mono (by omega))
  have C5_11 : Below w5.heap.size w5 w11 := C5_10.trans (hb11.mono (by omega))
  have C7_11 : Below w7.heap.size w7 w11 := C7_10.trans (hb11.mono (by omega))
  have C9_11 : Below w9.heap.size w9 w11 := C9_10.trans (hb11.mono (by omega))
  have C10_11 : Below w10.heap.size w10 w11 := hb11
  refine ph25 _ ⟨n, O, E, vs, mkS bg0 li il mm⟩ w10.heap.size w11 n gO gOc mm gE gEc cEc gB gI gA gL gK gV lv gVc cVc gBc cBc gP gQ n hn2 rfl hvsl h5 hvn (aV10.below C10_11 aV10.lt) (by have := aV10.lt; omega) hgP hgQ aP11 aQ11 a hS (fun a w12 gQ lq cq Qu P0 hS hb12 hbq hlq hQI hvP aP12 aQ12 => ?_)
  have z12 := hb12.size
  have C0_12 : Below W.heap.size W w12 := C0_11.trans (hb12.mono (by omega))
  have C2_12 : Below w2.heap.size w2 w12 := C2_11.trans (hb12.mono (by omega))
  have C4_12 : Below w4.heap.size w4 w12 := C4_11.trans (hb12.mono (by omega))
  have C5_12 : Below w5.heap.size w5 w12 := C5_11.trans (hb12.mono (by omega))
  have C7_12 : Below w7.heap.size w7 w12 := C7_11.trans (hb12.mono (by omega))
  have C9_12 : Below w9.heap.size w9 w12 := C9_11.trans (hb12.mono (by omega))
  have C10_12 : Below w10.heap.size w10 w12 := C10_11.trans (hb12.mono (by omega))
  refine ph26 _ ⟨n, O, E, vs, mkS bg0 li il mm⟩ w10.heap.size w12 n gO gOc mm gE gEc cEc gB gI gA gL gK gV lv gVc cVc gBc cBc gP gQ lq cq Qu P0 R hn2 rfl hOn hOl (aO.below C2_12 aO.lt) (fun i _ => row_blk (rO.row i) (fun g hg => C2_12.block g (row_lt (rO.row i) hg))) (aBc.below C10_12 aBc.lt) hbg0 (by omega) (by omega) (fun i g _ hg => by have := row_lt (rO.row i) hg; omega) hgP hbq hlq hQI hvP aP12 aQ12 a hS (fun a w13 P hS hb13 hP aP => ?_)
  have z13 := hb13.size
  have C0_13 : Below W.heap.size W w13 := C0_12.trans (hb13.mono (by omega))
  have C2_13 : Below w2.heap.size w2 w13 := C2_12.trans (hb13.mono (by omega))
  have C4_13 : Below w4.heap.size w4 w13 := C4_12.trans (hb13.mono (by omega))
  have C5_13 : Below w5.heap.size w5 w13 := C5_12.trans (hb13.mono (by omega))
  have C7_13 : Below w7.heap.size w7 w13 := C7_12.trans (hb13.mono (by omega))
  have C9_13 : Below w9.heap.size w9 w13 := C9_12.trans (hb13.mono (by omega))
  have C10_13 : Below w10.heap.size w10 w13 := C10_12.trans (hb13.mono (by omega))
  have zP := aP.lt
  refine ph27 _ w13 n gO gOc mm gE gEc cEc gB gI gA gL gK gV lv gVc cVc gBc cBc gP P hn2 hmm aP a hS (fun a w14 FL hS hb14 hF1 hF2 hF3 hF4 => ?_)
  have z14 := hb14.size
  have C0_14 : Below W.heap.size W w14 := C0_13.trans (hb14.mono (by omega))
  have C2_14 : Below w2.heap.size w2 w14 := C2_13.trans (hb14.mono (by omega))
  have C4_14 : Below w4.heap.size w4 w14 := C4_13.trans (hb14.mono (by omega))
  have C5_14 : Below w5.heap.size w5 w14 := C5_13.trans (hb14.mono (by omega))
  have C7_14 : Below w7.heap.size w7 w14 := C7_13.trans (hb14.mono (by omega))
  have C9_14 : Below w9.heap.size w9 w14 := C9_13.trans (hb14.mono (by omega))
  have C10_14 : Below w10.heap.size w10 w14 := C10_13.trans (hb14.mono (by omega))
  have C13_14 : Below w13.heap.size w13 w14 := hb14
  refine ph29 _ w14 n gO gOc mm gE gEc cEc gB gI gA gL gK gV lv gVc cVc gBc cBc gP FL hn2 a hS (fun a w15 gN gC hS hb15 hgN hgC aN15 aC15 => ?_)
  have z15 := hb15.size
  have C0_15 : Below W.heap.size W w15 := C0_14.trans (hb15.mono (by omega))
  have C2_15 : Below w2.heap.size w2 w15 := C2_14.trans (hb15.mono (by omega))
  have C4_15 : Below w4.heap.size w4 w15 := C4_14.trans (hb15.mono (by omega))
  have C5_15 : Below w5.heap.size w5 w15 := C5_14.trans (hb15.mono (by omega))
  have C7_15 : Below w7.heap.size w7 w15 := C7_14.trans (hb15.mono (by omega))
  have C9_15 : Below w9.heap.size w9 w15 := C9_14.trans (hb15.mono (by omega))
  have C10_15 : Below w10.heap.size w10 w15 := C10_14.trans (hb15.mono (by omega))
  have C13_15 : Below w13.heap.size w13 w15 := C13_14.trans (hb15.mono (by omega))
  obtain ⟨LN, hLN⟩ : ∃ g : Nat → Bool, ∀ p, g p = (P p && !li p) := ⟨_, fun _ => rfl⟩
  refine ph31 _ w14.heap.size w15 n gO gOc mm gE gEc cEc gB gI gA gL gK gV lv gVc cVc gBc cBc gP FL gN gC P li E LN O R hn2 hLN hOn hT (aO.below C2_15 aO.lt) (fun i _ => row_blk (rO.row i) (fun g hg => C2_15.block g (row_lt (rO.row i) hg))) (aE.below C4_15 aE.lt) (aP.below C13_15 aP.lt) (aK.below C7_15 aK.lt) aN15 aC15 (by omega) (by omega) (by omega) (by omega) (fun i g _ hg => by have := row_lt (rO.row i) hg; omega) hgN (by omega) a hS (fun a w16 hS hb16 aN aC => ?_)
  have z16 := hb16.size
  have C0_16 : Below W.heap.size W w16 := C0_15.trans (hb16.mono (by omega))
  have C2_16 : Below w2.heap.size w2 w16 := C2_15.trans (hb16.mono (by omega))
  have C4_16 : Below w4.heap.size w4 w16 := C4_15.trans (hb16.mono (by omega))
  have C5_16 : Below w5.heap.size w5 w16 := C5_15.trans (hb16.mono (by omega))
  have C7_16 : Below w7.heap.size w7 w16 := C7_15.trans (hb16.mono (by omega))
  have C9_16 : Below w9.heap.size w9 w16 := C9_15.trans (hb16.mono (by omega))
  have C10_16 : Below w10.heap.size w10 w16 := C10_15.trans (hb16.mono (by omega))
  have C13_16 : Below w13.heap.size w13 w16 := C13_15.trans (hb16.mono (by omega))
  have zN := aN.lt
  have zC := aC.lt
  refine ph32 _ w16 n gO gOc mm gE gEc cEc gB gI gA gL gK gV lv gVc cVc gBc cBc gP FL gN gC a hS (fun a w17 bd vsx hS h59 hbd hb17 hbox c7 c10 c15 c16 c17 => ?_)
  have z17 := hb17.size
  have C0_17 : Below W.heap.size W w17 := C0_16.trans (hb17.mono (by omega))
  have C2_17 : Below w2.heap.size w2 w17 := C2_16.trans (hb17.mono (by omega))
  have C4_17 : Below w4.heap.size w4 w17 := C4_16.trans (hb17.mono (by omega))
  have C5_17 : Below w5.heap.size w5 w17 := C5_16.trans (hb17.mono (by omega))
  have C7_17 : Below w7.heap.size w7 w17 := C7_16.trans (hb17.mono (by omega))
  have C9_17 : Below w9.heap.size w9 w17 := C9_16.trans (hb17.mono (by omega))
  have C10_17 : Below w10.heap.size w10 w17 := C10_16.trans (hb17.mono (by omega))
  have C13_17 : Below w13.heap.size w13 w17 := C13_16.trans (hb17.mono (by omega))
  have C16_17 : Below w16.heap.size w16 w17 := hb17
  refine ph33 W.heap.size W w17 w5.heap.size b1 w7.heap.size bd vsx n gO gOc mm gE gEc cEc gB gI gA gL gK gV lv gVc cVc gBc cBc gP FL gN gC O E li LN P bg0 il vs R rc inV atV ?_ a h59 hS
  exact {
    hB := C0_17
    hBb := by omega
    hn := hn2
    hmm := hmm
    hlv := h5
    hvs := hvsl
    hvn := hvn
    hO := hOn
    hT := hT
    hil := hil3
    hil0 := hil0
    hli0 := hli0
    hbg0 := hbg0
    box := hbox
    c7 := c7
    c10 := c10
    c15 := c15
    c16 := c16
    c17 := c17
    aO := aO.below C2_17 aO.lt
    rO := fun i _ => row_blk (rO.row i) (fun g hg => C2_17.block g (row_lt (rO.row i) hg))
    aOc := aOc.below C2_17 aOc.lt
    rC := fun i _ => row_blk (rC.row i) (fun g hg => C2_17.block g (row_lt (rC.row i) hg))
    aE := aE.below C4_17 aE.lt
    aEc := aEc.below C5_17 aEc.lt
    aB := aB.below C7_17 aB.lt
    aI := aI.below C7_17 aI.lt
    aA := aA.below C7_17 aA.lt
    ri := ri.below C7_17
    aL := aL.below C7_17 aL.lt
    aK := aK.below C7_17 aK.lt
    aV := aV.below C9_17 aV.lt
    aVc := aVc.below C10_17 aVc.lt
    aBc := aBc.below C10_17 aBc.lt
    aP := aP.below C13_17 aP.lt
    aN := aN.below C16_17 aN.lt
    aC := aC.below C16_17 aC.lt
    hP := hP
    hLN := hLN
    hF1 := hF1
    hF2 := hF2
    hF3 := hF3
    hF4 := hF4
    o1 := by omega
    oO := by omega
    oR := fun i g _ hg => by have := row_lt (rO.row i) hg; omega
    oC := fun i g _ hg => by have := row_lt (rC.row i) hg; omega
    oL := by omega
    oI := fun j g hg => row_lt (ri.inRow j) hg
    oA := fun j g hg => row_lt (ri.atRow j) hg
    oV := by omega
    oW := by omega }
end Go.Proofs.Ybulkekys
