import Derived.Test.YbulkekysLibB
namespace Go.Proofs.Ybulkekys
open Go.RowKit

theorem drewN_two {w w' : World} {q : Nat} (h : ∃ m, w' = (w.drewN q).drewN m) : ∃ m, w' = w.drewN m := by
  obtain ⟨m, rfl⟩ := h
  exact ⟨q + m, by simp⟩

set_option maxHeartbeats 8000000 in
set_option maxRecDepth 1000000 in
theorem tail36 (B : Nat) (w0 w : World) (F : Nat → Prop) (n FL bd gOc gEc cEc gL gK gN gP gBc cBc gC mm : Nat) (O : Nat → List Nat) (E li LN P bg0 : Nat → Bool) (il cnt : Nat → Nat) (s : DS) (m : Mem) (rc : Nat → Value) (in0 : Nat → List (Int × Int))
    (a : Act) (hS : Sl a n FL bd gOc gEc cEc gL gK gN gP gBc cBc gC mm) (h : Tl B w0 w F n FL bd gOc gEc cEc gL gK gN gP gBc cBc gC mm O E li LN P bg0 il cnt s m rc in0)
    (next : ∀ a' w', Sl a' n FL bd gOc gEc cEc gL gK gN gP gBc cBc gC mm → Tl B w0 w' F n FL bd gOc gEc cEc gL gK gN gP gBc cBc gC mm O E li LN P bg0 il cnt s m rc in0 → Code.wp Yba.prog (dropSeq 37 (Yba.f4.body.getD .skip)) (bodyPost Yba.prog Yba.f4 (LPost B w0)) a' w') :
    Code.wp Yba.prog (dropSeq 36 (Yba.f4.body.getD .skip)) (bodyPost Yba.prog Yba.f4 (LPost B w0)) a w := by
  have Hn : Hid _ := next
  clear next
  have hF1 := h.hFL
  have hF2 := h.hn
  have c15 := h.hX.cB
  have c16 := h.hX.cI
  have c17 := h.hX.cA
  rw [h.hlB] at c15
  rw [h.hlI] at c16
  rw [h.hlA] at c17
  obtain ⟨xf, hxa, hxf⟩ := fr_of a hS.sz hS.df
  have hq18 := (hxf 18).symm.trans hS.s18
  have hq20 := (hxf 20).symm.trans hS.s20
  have hq26 := (hxf 26).symm.trans hS.s26
  have hq29 := (hxf 29).symm.trans hS.s29
  have hq33 := (hxf 33).symm.trans hS.s33
  have hq34 := (hxf 34).symm.trans hS.s34
  have hq43 := (hxf 43).symm.trans hS.s43
  have hq44 := (hxf 44).symm.trans hS.s44
  have hq52 := (hxf 52).symm.trans hS.s52
  have hq54 := (hxf 54).symm.trans hS.s54
  have hq55 := (hxf 55).symm.trans hS.s55
  have hq59 := (hxf 59).symm.trans hS.s59
  subst hxa
  conv => arg 4; simp only [fr, hq18, hq20, hq26, hq29, hq33, hq34, hq43, hq44, hq52, hq54, hq55, hq59]
  clear hxf hS  hq18 hq20 hq26 hq29 hq33 hq34 hq43 hq44 hq52 hq54 hq55 hq59
  conv => arg 2; whnf
  refine wp_seq_k (fun K hK => ?_)
  have HK : Hid _ := hK
  clear hK
  have hne : ((FL : Int) != (FL : Int)) = false := by simp
  go_wp2_with fail
  exact HK.out _ _ (Hn.out _ _ ⟨rfl, rfl, rfl, rfl, rfl, rfl, rfl, rfl, rfl, rfl, rfl, rfl, rfl, rfl⟩ h)

set_option maxHeartbeats 8000000 in
set_option maxRecDepth 1000000 in
theorem tail35 (B : Nat) (w0 w : World) (F : Nat → Prop) (n FL bd gOc gEc cEc gL gK gN gP gBc cBc gC mm : Nat) (O : Nat → List Nat) (E li LN P bg0 : Nat → Bool) (il cnt : Nat → Nat) (s : DS) (m : Mem) (rc : Nat → Value) (in0 : Nat → List (Int × Int))
    (a : Act) (hS : Sl a n FL bd gOc gEc cEc gL gK gN gP gBc cBc gC mm) (h : Tl B w0 w F n FL bd gOc gEc cEc gL gK gN gP gBc cBc gC mm O E li LN P bg0 il cnt s m rc in0)
    (next : ∀ a' w', Sl a' n FL bd gOc gEc cEc gL gK gN gP gBc cBc gC mm → Tl B w0 w' F n FL bd gOc gEc cEc gL gK gN gP gBc cBc gC mm O E li LN P bg0 il cnt s m rc in0 → Code.wp Yba.prog (dropSeq 36 (Yba.f4.body.getD .skip)) (bodyPost Yba.prog Yba.f4 (LPost B w0)) a' w') :
    Code.wp Yba.prog (dropSeq 35 (Yba.f4.body.getD .skip)) (bodyPost Yba.prog Yba.f4 (LPost B w0)) a w := by
  have Hn : Hid _ := next
  clear next
  have hF2 := h.hn
  obtain ⟨xf, hxa, hxf⟩ := fr_of a hS.sz hS.df
  have hq18 := (hxf 18).symm.trans hS.s18
  have hq20 := (hxf 20).symm.trans hS.s20
  have hq26 := (hxf 26).symm.trans hS.s26
  have hq29 := (hxf 29).symm.trans hS.s29
  have hq33 := (hxf 33).symm.trans hS.s33
  have hq34 := (hxf 34).symm.trans hS.s34
  have hq43 := (hxf 43).symm.trans hS.s43
  have hq44 := (hxf 44).symm.trans hS.s44
  have hq52 := (hxf 52).symm.trans hS.s52
  have hq54 := (hxf 54).symm.trans hS.s54
  have hq55 := (hxf 55).symm.trans hS.s55
  have hq59 := (hxf 59).symm.trans hS.s59
  subst hxa
  conv => arg 4; simp only [fr, hq18, hq20, hq26, hq29, hq33, hq34, hq43, hq44, hq52, hq54, hq55, hq59]
  clear hxf hS  hq18 hq20 hq26 hq29 hq33 hq34 hq43 hq44 hq52 hq54 hq55 hq59
  conv => arg 2; whnf
  refine wp_seq_k (fun K hK => ?_)
  have HK : Hid _ := hK
  clear hK
  go_wp2_with fail
  refine wp_loop (fun a w => ∃ i : Nat, i ≤ n ∧ a.tmps.getD 60 undef = .int .i64 (i : Int) ∧ Sl a n FL bd gOc gEc cEc gL gK gN gP gBc cBc gC mm ∧ Tl B w0 w F n FL bd gOc gEc cEc gL gK gN gP gBc cBc gC mm O E li LN P bg0 il cnt s m rc in0) (fun a _ => n - (intOf (a.tmps.getD 60 undef)).toNat) ⟨0, Nat.zero_le _, rfl, ⟨rfl, rfl, rfl, rfl, rfl, rfl, rfl, rfl, rfl, rfl, rfl, rfl, rfl, rfl⟩, h⟩ (fun a wr hI => ?_)
  clear h
  obtain ⟨i, hi, hi60, hS, h⟩ := hI
  have Hmo : Hid (n - (intOf (a.tmps.getD 60 undef)).toNat = n - i) := by show _ = _; rw [hi60]; simp [intOf]
  by_cases hlt : i < n
  · have c7 := h.hX.cO
    have c1 := h.hX.out.mr i hlt
    have c2 := h.aOc.mr i hlt
    have hE := fun q : Nat => (equal_row (m.rowV i) (rc i) (O i) (wr.drewN q) (Nat.le_trans (h.hOl i hlt) (by omega)) ((h.drewN q).hX.row i hlt) ((h.drewN q).hrc i hlt)).mono (fun e w' h => (show e = .returned (.bool true) ∧ ∃ m, w' = wr.drewN m from ⟨h.1, drewN_two h.2⟩))
    have b1 : (0 : Int) ≤ (i : Int) := Int.natCast_nonneg _
    have b2 : (i : Int) < (n : Int) := by omega
    have H : Hid _ := h
    clear h
    generalize m.rowV i = v1 at *
    generalize rc i = v2 at *
    obtain ⟨xf, hxa, hxf⟩ := fr_of a hS.sz hS.df
    have hq18 := (hxf 18).symm.trans hS.s18
    have hq20 := (hxf 20).symm.trans hS.s20
    have hq26 := (hxf 26).symm.trans hS.s26
    have hq29 := (hxf 29).symm.trans hS.s29
    have hq33 := (hxf 33).symm.trans hS.s33
    have hq34 := (hxf 34).symm.trans hS.s34
    have hq43 := (hxf 43).symm.trans hS.s43
    have hq44 := (hxf 44).symm.trans hS.s44
    have hq52 := (hxf 52).symm.trans hS.s52
    have hq54 := (hxf 54).symm.trans hS.s54
    have hq55 := (hxf 55).symm.trans hS.s55
    have hq59 := (hxf 59).symm.trans hS.s59
    have hq60 := (hxf 60).symm.trans hi60
    subst hxa
    conv => arg 4; simp only [fr, hq18, hq20, hq26, hq29, hq33, hq34, hq43, hq44, hq52, hq54, hq55, hq59, hq60]
    clear hxf hS hi60 hq18 hq20 hq26 hq29 hq33 hq34 hq43 hq44 hq52 hq54 hq55 hq59 hq60
    go_upto_region 110 with (fail)
    go_quiet ((go_at_call 10; exact hE _))
    have H3 : Hid _ := H.out.drewN nq
    go_wp2_with fail
    exact ⟨⟨i + 1, by omega, by go_num, ⟨rfl, rfl, rfl, rfl, rfl, rfl, rfl, rfl, rfl, rfl, rfl, rfl, rfl, rfl⟩, H3.out⟩, by rw [Hmo.out]; show n - ((i : Int) + 1).toNat < _; omega⟩
  · have hi2 := hi
    obtain ⟨xf, hxa, hxf⟩ := fr_of a hS.sz hS.df
    have hq18 := (hxf 18).symm.trans hS.s18
    have hq20 := (hxf 20).symm.trans hS.s20
    have hq26 := (hxf 26).symm.trans hS.s26
    have hq29 := (hxf 29).symm.trans hS.s29
    have hq33 := (hxf 33).symm.trans hS.s33
    have hq34 := (hxf 34).symm.trans hS.s34
    have hq43 := (hxf 43).symm.trans hS.s43
    have hq44 := (hxf 44).symm.trans hS.s44
    have hq52 := (hxf 52).symm.trans hS.s52
    have hq54 := (hxf 54).symm.trans hS.s54
    have hq55 := (hxf 55).symm.trans hS.s55
    have hq59 := (hxf 59).symm.trans hS.s59
    have hq60 := (hxf 60).symm.trans hi60
    subst hxa
    conv => arg 4; simp only [fr, hq18, hq20, hq26, hq29, hq33, hq34, hq43, hq44, hq52, hq54, hq55, hq59, hq60]
    clear hxf hS hi60 hq18 hq20 hq26 hq29 hq33 hq34 hq43 hq44 hq52 hq54 hq55 hq59 hq60
    go_wp2_with fail
    exact HK.out _ _ (Hn.out _ _ ⟨rfl, rfl, rfl, rfl, rfl, rfl, rfl, rfl, rfl, rfl, rfl, rfl, rfl, rfl⟩ h)

set_option maxHeartbeats 8000000 in
set_option maxRecDepth 1000000 in
theorem tail34 (B : Nat) (w0 w : World) (F : Nat → Prop) (n FL bd gOc gEc cEc gL gK gN gP gBc cBc gC mm : Nat) (O : Nat → List Nat) (E li LN P bg0 : Nat → Bool) (il cnt : Nat → Nat) (s : DS) (m : Mem) (rc : Nat → Value) (in0 : Nat → List (Int × Int)) (gV cV gVc cVc : Nat) (vs : List Nat) (hvl : vs.length ≤ 16384) (aV : Arr w gV 3 vs.length cV (nv .i64 vs)) (aVc : Arr w gVc 3 vs.length cVc (nv .i64 vs))
    (a : Act) (hS : Sl a n FL bd gOc gEc cEc gL gK gN gP gBc cBc gC mm) (h39 : a.tmps.getD 39 undef = .slice (some ⟨gV, 0, none⟩) vs.length cV) (h42 : a.tmps.getD 42 undef = .slice (some ⟨gVc, 0, none⟩) vs.length cVc) (h : Tl B w0 w F n FL bd gOc gEc cEc gL gK gN gP gBc cBc gC mm O E li LN P bg0 il cnt s m rc in0)
    (next : ∀ a' w', Sl a' n FL bd gOc gEc cEc gL gK gN gP gBc cBc gC mm → Tl B w0 w' F n FL bd gOc gEc cEc gL gK gN gP gBc cBc gC mm O E li LN P bg0 il cnt s m rc in0 → Code.wp Yba.prog (dropSeq 35 (Yba.f4.body.getD .skip)) (bodyPost Yba.prog Yba.f4 (LPost B w0)) a' w') :
    Code.wp Yba.prog (dropSeq 34 (Yba.f4.body.getD .skip)) (bodyPost Yba.prog Yba.f4 (LPost B w0)) a w := by
  have Hn : Hid _ := next
  clear next
  have hF2 := h.hn
  have hE1 := I.equal_any gV gVc vs.length cV cVc vs w (by omega) aV aVc
  have H : Hid _ := h
  clear h
  obtain ⟨xf, hxa, hxf⟩ := fr_of a hS.sz hS.df
  have hq18 := (hxf 18).symm.trans hS.s18
  have hq20 := (hxf 20).symm.trans hS.s20
  have hq26 := (hxf 26).symm.trans hS.s26
  have hq29 := (hxf 29).symm.trans hS.s29
  have hq33 := (hxf 33).symm.trans hS.s33
  have hq34 := (hxf 34).symm.trans hS.s34
  have hq43 := (hxf 43).symm.trans hS.s43
  have hq44 := (hxf 44).symm.trans hS.s44
  have hq52 := (hxf 52).symm.trans hS.s52
  have hq54 := (hxf 54).symm.trans hS.s54
  have hq55 := (hxf 55).symm.trans hS.s55
  have hq59 := (hxf 59).symm.trans hS.s59
  have hq39 := (hxf 39).symm.trans h39
  have hq42 := (hxf 42).symm.trans h42
  subst hxa
  conv => arg 4; simp only [fr, hq18, hq20, hq26, hq29, hq33, hq34, hq43, hq44, hq52, hq54, hq55, hq59, hq39, hq42]
  clear hxf hS h39 h42 hq18 hq20 hq26 hq29 hq33 hq34 hq43 hq44 hq52 hq54 hq55 hq59 hq39 hq42
  conv => arg 2; whnf
  refine wp_seq_k (fun K hK => ?_)
  have HK : Hid _ := hK
  clear hK
  have hne : ((n : Int) != (n : Int)) = false := by simp
  go_wp2_with fail
  refine hE1.mono ?_
  rintro e w1 ⟨rfl, q1, rfl⟩
  have H1 : Hid _ := H.out.drewN q1
  have c10 := H.out.hX.cE
  have hE2 := equalB_any m.gE gEc n n cEc E (w.drewN q1) (by omega) H1.out.hX.en H1.out.aEc
  go_wp2_with fail
  refine hE2.mono ?_
  rintro e w2 ⟨rfl, q2, rfl⟩
  have H2 : Hid _ := H1.out.drewN q2
  have c7 := H.out.hX.cO
  go_wp2_with fail
  refine HK.out _ _ (Hn.out _ _ ?_ ?_)
  · exact ⟨rfl, rfl, rfl, rfl, rfl, rfl, rfl, rfl, rfl, rfl, rfl, rfl, rfl, rfl⟩
  · first | exact H2.out | (simpa using H2.out)
end Go.Proofs.Ybulkekys
