import Derived.Test.YbulkekysSlots
namespace Go.Proofs.Ybulkekys
open Go.RowKit

theorem mr_const (n : Nat) (z : Value) : List.replicate n z = mr n fun _ => z := by
  unfold mr
  induction n with
  | zero => rfl
  | succ n ih => rw [List.replicate_succ', List.range_succ, List.map_append, ← ih]; rfl
theorem getD_cell {w : World} {v : Value} {l : List Nat} (h : w.ownsRow 0 3 1 v l.length (nv .i64 l)) {k : Nat} (hk : k < l.length) : ∃ g c, v = .slice (some ⟨g, 0, none⟩) l.length c ∧ w.cell? ⟨g, k, none⟩ = some (.int .i64 ((l.getD k 0 : Nat) : Int)) := by
  obtain ⟨g, c, hf, _, _⟩ := World.ownsRow.form h (by omega)
  refine ⟨g, c, hf, ?_⟩
  rw [hf] at h
  exact row_cell h k _ (nv_at .i64 l k hk)
theorem take_getD (l : List Nat) (k : Nat) (hk : k < l.length) : l.take (k + 1) = l.take k ++ [l.getD k 0] := by
  rw [take_next l k hk]
  simp [List.getD, List.getElem?_eq_getElem hk]
theorem occ_snoc (E : Nat → Bool) (l : List Nat) (x h : Nat) : occ E (l ++ [x]) h = occ E l h + (if h = x then (if E x then 0 else 1) else 0) := by
  unfold occ
  by_cases e : h = x
  · subst e
    cases E h <;> simp [List.count_append]
  · rw [if_neg e, List.count_append, List.count_eq_zero_of_not_mem (l := [x]) (by simp; exact e)]
    rfl
/-- The count behind p waiters, and k ends of the next. -/
def cntTo (O : Nat → List Nat) (E LN : Nat → Bool) (p k h : Nat) : Nat := lsum (fun q => occ E (O q) h) LN p + occ E ((O p).take k) h
theorem lsum_mono (f : Nat → Nat) (K : Nat → Bool) {p n : Nat} (h : p ≤ n) : lsum f K p ≤ lsum f K n := by
  induction n with
  | zero => obtain rfl : p = 0 := by omega
            exact Nat.le_refl _
  | succ n ih =>
    by_cases e : p = n + 1
    · subst e; exact Nat.le_refl _
    · have := ih (by omega); simp only [lsum]; omega
theorem cntTo_le (O : Nat → List Nat) (E LN : Nat → Bool) (n p k h : Nat) (hp : p < n) (hT : lsum (fun p => (O p).length) (fun _ => true) n ≤ 65536) : cntTo O E LN p k h ≤ 65536 := by
  unfold cntTo
  have h1 := lsum_le (fun q => occ E (O q) h) (fun q => (O q).length) LN (fun q => occ_le E (O q) h) p
  have h2 := occ_le E ((O p).take k) h
  have h3 := lsum_mono (fun q => (O q).length) (fun _ => true) (show p + 1 ≤ n from hp)
  simp only [lsum, if_true] at h3
  have h4 : ((O p).take k).length ≤ (O p).length := by simp; omega
  omega
theorem cntTo_zero (O : Nat → List Nat) (E LN : Nat → Bool) (p h : Nat) : cntTo O E LN p 0 h = lsum (fun q => occ E (O q) h) LN p := by simp [cntTo, occ]
theorem cntTo_full (O : Nat → List Nat) (E LN : Nat → Bool) (p h : Nat) (hl : LN p = true) : cntTo O E LN p (O p).length h = lsum (fun q => occ E (O q) h) LN (p + 1) := by simp [cntTo, lsum, hl]
theorem cntTo_step (O : Nat → List Nat) (E LN : Nat → Bool) (p k : Nat) (hk : k < (O p).length) : (fun h => (Value.int .i64 (cntTo O E LN p (k + 1) h : Int))) = (if E ((O p).getD k 0) then (fun h => Value.int .i64 (cntTo O E LN p k h : Int)) else upd (fun h => Value.int .i64 (cntTo O E LN p k h : Int)) ((O p).getD k 0) (.int .i64 ((cntTo O E LN p k ((O p).getD k 0) : Int) + 1))) := by
  funext h
  unfold cntTo
  rw [take_getD _ _ hk, occ_snoc]
  generalize (O p).getD k 0 = x
  by_cases e : h = x
  · subst e
    cases hE : E h
    · simp [upd_same]; omega
    · simp
  · cases hE : E x
    · simp [e, upd_other]
    · simp [e]

set_option maxHeartbeats 8000000 in
set_option maxRecDepth 1000000 in
theorem ph29 (Q : Exit → Act → World → Prop) (w : World) (n : Nat) (gO : Nat) (gOc : Nat) (mm : Nat) (gE : Nat) (gEc : Nat) (cEc : Nat) (gB : Nat) (gI : Nat) (gA : Nat) (gL : Nat) (gK : Nat) (gV : Nat) (lv : Nat) (gVc : Nat) (cVc : Nat) (gBc : Nat) (cBc : Nat) (gP : Nat) (FL : Nat) (hn : n ≤ 4097)
    (a : Act) (hS : S28 a n gO gOc mm gE gEc cEc gB gI gA gL gK gV lv gVc cVc gBc cBc gP FL)
    (next : ∀ a' w' gN gC, S32 a' n gO gOc mm gE gEc cEc gB gI gA gL gK gV lv gVc cVc gBc cBc gP FL gN gC → Below w.heap.size w w' → w.heap.size ≤ gN → gN < gC → Arr w' gN 4 n n (mr n fun _ => .bool false) → Arr w' gC 3 n n (mr n fun _ => .int .i64 0) → Code.wp Yba.prog (dropSeq 31 (Yba.f4.body.getD .skip)) Q a' w') :
    Code.wp Yba.prog (dropSeq 29 (Yba.f4.body.getD .skip)) Q a w := by
  obtain ⟨i3, hi3, hz30, hz31, hz32⟩ := info_parts I.infoE
  obtain ⟨i4, hi4, hz40, hz41, hz42⟩ := info_parts info4
  have Hn : Hid _ := next
  clear next
  obtain ⟨xf, hxa, hxf⟩ := fr_of a hS.sz hS.df
  have hq18 := (hxf 18).symm.trans hS.s18
  have hq19 := (hxf 19).symm.trans hS.s19
  have hq20 := (hxf 20).symm.trans hS.s20
  have hq26 := (hxf 26).symm.trans hS.s26
  have hq27 := (hxf 27).symm.trans hS.s27
  have hq29 := (hxf 29).symm.trans hS.s29
  have hq30 := (hxf 30).symm.trans hS.s30
  have hq31 := (hxf 31).symm.trans hS.s31
  have hq32 := (hxf 32).symm.trans hS.s32
  have hq33 := (hxf 33).symm.trans hS.s33
  have hq34 := (hxf 34).symm.trans hS.s34
  have hq39 := (hxf 39).symm.trans hS.s39
  have hq42 := (hxf 42).symm.trans hS.s42
  have hq43 := (hxf 43).symm.trans hS.s43
  have hq44 := (hxf 44).symm.trans hS.s44
  have hq52 := (hxf 52).symm.trans hS.s52
  subst hxa
  conv => arg 4; simp only [fr, hq18, hq19, hq20, hq26, hq27, hq29, hq30, hq31, hq32, hq33, hq34, hq39, hq42, hq43, hq44, hq52]
  clear hxf hS  hq18 hq19 hq20 hq26 hq27 hq29 hq30 hq31 hq32 hq33 hq34 hq39 hq42 hq43 hq44 hq52
  conv => arg 2; whnf
  refine wp_seq_k (fun K1 hK1 => ?_)
  have HK1 : Hid _ := hK1
  clear hK1
  go_wp2_with (at_make; refine wpList_make_arr rfl _ _ 24 rfl 4 i4 (.bool false) 1 Yba.underlying24 hi4 hz40 hz41 hz42 rfl _ _ _ _ n rfl rfl ?m0 ?m1 ?m2 ?m3 ?_)
  case m0 => first | rfl | omega
  case m1 => first | rfl | omega
  case m2 => omega
  case m3 => unfold maxLen; omega
  intro w1 hA1 hg1
  have hb1 : Below w.heap.size w w1 := (Below.refl _ _).grown hg1 (Nat.le_refl _) (fun k hk => by cases hk)
  have hlt1 := hA1.lt
  rw [mr_const] at hA1
  go_wp2_with fail
  refine HK1.out _ _ ?_
  clear HK1 K1
  refine wp_seq_k (fun K2 hK2 => ?_)
  have HK2 : Hid _ := hK2
  clear hK2
  go_wp2_with (at_make; refine wpList_make_arr rfl _ _ 33 rfl 3 i3 (.int .i64 0) 8 Yba.underlying33 hi3 hz30 hz31 hz32 rfl _ _ _ _ n rfl rfl ?m0 ?m1 ?m2 ?m3 ?_)
  case m0 => first | rfl | omega
  case m1 => first | rfl | omega
  case m2 => omega
  case m3 => unfold maxLen; omega
  intro w2 hA2 hg2
  have hb2 : Below w1.heap.size w1 w2 := (Below.refl _ _).grown hg2 (Nat.le_refl _) (fun k hk => by cases hk)
  rw [mr_const] at hA2
  go_wp2_with fail
  refine HK2.out _ _ ?_
  clear HK2 K2
  exact Hn.out _ _ w.heap.size w1.heap.size ⟨rfl, rfl, rfl, rfl, rfl, rfl, rfl, rfl, rfl, rfl, rfl, rfl, rfl, rfl, rfl, rfl, rfl, rfl, rfl, rfl⟩ (hb1.trans (hb2.mono (Nat.le_of_lt hlt1))) (Nat.le_refl _) hlt1 (hA1.below hb2 hlt1) hA2


/-- linkNow behind p rounds. -/
def lnTo (LN : Nat → Bool) (p : Nat) : Nat → Value := fun i => .bool (if i < p then LN i else false)
theorem lnTo_step (LN : Nat → Bool) (p : Nat) : lnTo LN (p + 1) = upd (lnTo LN p) p (.bool (LN p)) := by
  funext i
  unfold lnTo
  by_cases e : i = p
  · subst e; simp [upd_same]
  · rw [upd_other _ _ _ _ e]
    by_cases h : i < p
    · simp [h, show i < p + 1 by omega]
    · simp [h, show ¬ i < p + 1 by omega]
theorem below_set {B : Nat} {w w' : World} (h : Below B w w') (b o : Nat) (u : Value) (hb : B ≤ b) : Below B w (w'.setCell ⟨b, o, none⟩ u) := h.setCell (p := ⟨b, o, none⟩) hb u

set_option maxHeartbeats 8000000 in
set_option maxRecDepth 1000000 in
theorem ph31 (Q : Exit → Act → World → Prop) (B1 : Nat) (w : World) (n : Nat) (gO : Nat) (gOc : Nat) (mm : Nat) (gE : Nat) (gEc : Nat) (cEc : Nat) (gB : Nat) (gI : Nat) (gA : Nat) (gL : Nat) (gK : Nat) (gV : Nat) (lv : Nat) (gVc : Nat) (cVc : Nat) (gBc : Nat) (cBc : Nat) (gP : Nat) (FL : Nat) (gN : Nat) (gC : Nat) (P li E LN : Nat → Bool) (O : Nat → List Nat) (R : Nat → Value) (hn : n ≤ 4097) (hLN : ∀ p, LN p = (P p && !li p))
    (hO : ∀ p, p < n → ∀ h ∈ O p, h < n) (hT : lsum (fun p => (O p).length) (fun _ => true) n ≤ 65536)
    (aO : Arr w gO 33 n n (mr n R)) (hR : ∀ i, i < n → w.ownsRow 0 3 1 (R i) (O i).length (nv .i64 (O i)))
    (aE : Arr w gE 4 n n (mr n fun i => .bool (E i)))
    (aP : Arr w gP 4 n n (mr n fun i => .bool (P i)))
    (aK : Arr w gK 4 n n (mr n fun i => .bool (li i)))
    (aN : Arr w gN 4 n n (mr n fun _ => .bool false)) (aC : Arr w gC 3 n n (mr n fun _ => .int .i64 0))
    (hb1 : gO < B1) (hb2 : gE < B1) (hb3 : gP < B1) (hb4 : gK < B1) (hb5 : ∀ i g, i < n → (R i).ownBlock = some g → g < B1) (hb6 : B1 ≤ gN) (hb7 : B1 ≤ gC)
    (a : Act) (hS : S32 a n gO gOc mm gE gEc cEc gB gI gA gL gK gV lv gVc cVc gBc cBc gP FL gN gC)
    (next : ∀ a' w', S32 a' n gO gOc mm gE gEc cEc gB gI gA gL gK gV lv gVc cVc gBc cBc gP FL gN gC → Below B1 w w' → Arr w' gN 4 n n (mr n fun i => .bool (LN i)) → Arr w' gC 3 n n (mr n fun h => .int .i64 (lsum (fun p => occ E (O p) h) LN n : Nat)) → Code.wp Yba.prog (dropSeq 32 (Yba.f4.body.getD .skip)) Q a' w') :
    Code.wp Yba.prog (dropSeq 31 (Yba.f4.body.getD .skip)) Q a w := by
  have Hn : Hid _ := next
  have HR : Hid _ := hR
  have HLN : Hid (∀ p, LN p = (P p && !li p)) := hLN
  clear next hR hLN
  have nNC : gN ≠ gC := ty_ne aN.ty aC.ty (by decide)
  have aN0 : Arr w gN 4 n n (mr n (lnTo LN 0)) := by
    rw [mr_congr n (lnTo LN 0) (fun _ => .bool false) (fun j _ => by simp [lnTo])]; exact aN
  have aC0 : Arr w gC 3 n n (mr n fun h => .int .i64 (lsum (fun p => occ E (O p) h) LN 0 : Nat)) := aC
  clear aN aC
  obtain ⟨xf, hxa, hxf⟩ := fr_of a hS.sz hS.df
  have hq18 := (hxf 18).symm.trans hS.s18
  have hq19 := (hxf 19).symm.trans hS.s19
  have hq20 := (hxf 20).symm.trans hS.s20
  have hq26 := (hxf 26).symm.trans hS.s26
  have hq27 := (hxf 27).symm.trans hS.s27
  have hq29 := (hxf 29).symm.trans hS.s29
  have hq30 := (hxf 30).symm.trans hS.s30
  have hq31 := (hxf 31).symm.trans hS.s31
  have hq32 := (hxf 32).symm.trans hS.s32
  have hq33 := (hxf 33).symm.trans hS.s33
  have hq34 := (hxf 34).symm.trans hS.s34
  have hq39 := (hxf 39).symm.trans hS.s39
  have hq42 := (hxf 42).symm.trans hS.s42
  have hq43 := (hxf 43).symm.trans hS.s43
  have hq44 := (hxf 44).symm.trans hS.s44
  have hq52 := (hxf 52).symm.trans hS.s52
  have hq54 := (hxf 54).symm.trans hS.s54
  have hq55 := (hxf 55).symm.trans hS.s55
  subst hxa
  conv => arg 4; simp only [fr, hq18, hq19, hq20, hq26, hq27, hq29, hq30, hq31, hq32, hq33, hq34, hq39, hq42, hq43, hq44, hq52, hq54, hq55]
  clear hxf hS  hq18 hq19 hq20 hq26 hq27 hq29 hq30 hq31 hq32 hq33 hq34 hq39 hq42 hq43 hq44 hq52 hq54 hq55
  conv => arg 2; whnf
  refine wp_seq_k (fun K hK => ?_)
  have HK : Hid _ := hK
  clear hK
  go_wp2_with fail
  refine wp_loop (fun a w' => ∃ p : Nat, p ≤ n ∧ a.tmps.getD 56 undef = .int .i64 (p : Int) ∧ S32 a n gO gOc mm gE gEc cEc gB gI gA gL gK gV lv gVc cVc gBc cBc gP FL gN gC ∧ Below B1 w w' ∧ Arr w' gN 4 n n (mr n (lnTo LN p)) ∧ Arr w' gC 3 n n (mr n fun h => .int .i64 (lsum (fun q => occ E (O q) h) LN p : Nat))) (fun a _ => n - (intOf (a.tmps.getD 56 undef)).toNat) ⟨0, Nat.zero_le _, rfl, ⟨rfl, rfl, rfl, rfl, rfl, rfl, rfl, rfl, rfl, rfl, rfl, rfl, rfl, rfl, rfl, rfl, rfl, rfl, rfl, rfl⟩, Below.refl _ _, aN0, aC0⟩ (fun a wr hI => ?_)
  clear aN0 aC0
  obtain ⟨p, hp, h56, hS, hB, hN, hC⟩ := hI
  have Hmo : Hid (n - (intOf (a.tmps.getD 56 undef)).toNat = n - p) := by show _ = _; rw [h56]; simp [intOf]
  by_cases hlt : p < n
  · have cP := (aP.below hB hb3).mr p hlt
    have cK := (aK.below hB hb4).mr p hlt
    have fN := hN.fr p
    have cN0 := hN.mr p hlt
    have hN2 := hN.setMr p (.bool (LN p))
    rw [← lnTo_step] at hN2
    have hC2 := hC.other gN p (.bool (LN p)) nNC.symm
    have hB2 := below_set hB gN p (.bool (LN p)) hb6
    have cN := hN2.mr p hlt
    have cN' : lnTo LN (p + 1) p = .bool (LN p) := by simp [lnTo]
    rw [cN'] at cN
    have cO := (aO.below hB2 hb1).mr p hlt
    have hrow := row_blk (HR.out p hlt) (fun g hg => hB2.block g (hb5 p g hlt hg))
    have hl := HLN.out p
    have b1 : (0 : Int) ≤ (p : Int) := Int.natCast_nonneg _
    have b2 : (p : Int) < (n : Int) := by omega
    clear hN hC hB
    have hx : P p = false ∨ (P p = true ∧ li p = true) ∨ (P p = true ∧ li p = false) := by cases P p <;> cases li p <;> simp
    rcases hx with hx | ⟨hx, hy⟩ | ⟨hx, hy⟩
    · simp only [hx, Bool.false_and] at cP hl
      rw [hl] at hN2 hC2 hB2 cN
      clear hrow cO
      have hC3 : Arr (wr.setCell ⟨gN, p, none⟩ (.bool false)) gC 3 n n (mr n fun h => .int .i64 (lsum (fun q => occ E (O q) h) LN (p + 1) : Nat)) := by
        have e : (fun h => Value.int .i64 (lsum (fun q => occ E (O q) h) LN (p + 1) : Nat)) = fun h => Value.int .i64 (lsum (fun q => occ E (O q) h) LN p : Nat) := by funext h; simp [lsum, hl]
        rw [e]; exact hC2
      obtain ⟨xf, hxa, hxf⟩ := fr_of a hS.sz hS.df
      have hq18 := (hxf 18).symm.trans hS.s18
      have hq19 := (hxf 19).symm.trans hS.s19
      have hq20 := (hxf 20).symm.trans hS.s20
      have hq26 := (hxf 26).symm.trans hS.s26
      have hq27 := (hxf 27).symm.trans hS.s27
      have hq29 := (hxf 29).symm.trans hS.s29
      have hq30 := (hxf 30).symm.trans hS.s30
      have hq31 := (hxf 31).symm.trans hS.s31
      have hq32 := (hxf 32).symm.trans hS.s32
      have hq33 := (hxf 33).symm.trans hS.s33
      have hq34 := (hxf 34).symm.trans hS.s34
      have hq39 := (hxf 39).symm.trans hS.s39
      have hq42 := (hxf 42).symm.trans hS.s42
      have hq43 := (hxf 43).symm.trans hS.s43
      have hq44 := (hxf 44).symm.trans hS.s44
      have hq52 := (hxf 52).symm.trans hS.s52
      have hq54 := (hxf 54).symm.trans hS.s54
      have hq55 := (hxf 55).symm.trans hS.s55
      have hq56 := (hxf 56).symm.trans h56
      subst hxa
      conv => arg 4; simp only [fr, hq18, hq19, hq20, hq26, hq27, hq29, hq30, hq31, hq32, hq33, hq34, hq39, hq42, hq43, hq44, hq52, hq54, hq55, hq56]
      clear hxf hS h56 hq18 hq19 hq20 hq26 hq27 hq29 hq30 hq31 hq32 hq33 hq34 hq39 hq42 hq43 hq44 hq52 hq54 hq55 hq56
      go_upto_region 96 with (fail)
      generalize wr.setCell ⟨gN, p, none⟩ (.bool false) = wd at *
      go_wp2_with fail
      exact ⟨⟨p + 1, by omega, by go_num, ⟨rfl, rfl, rfl, rfl, rfl, rfl, rfl, rfl, rfl, rfl, rfl, rfl, rfl, rfl, rfl, rfl, rfl, rfl, rfl, rfl⟩, hB2, hN2, hC3⟩, by rw [Hmo.out]; show n - ((p : Int) + 1).toNat < _; omega⟩
    · simp only [hx, hy, Bool.true_and, Bool.not_true] at cP cK hl
      rw [hl] at hN2 hC2 hB2 cN
      clear hrow cO
      have hC3 : Arr (wr.setCell ⟨gN, p, none⟩ (.bool false)) gC 3 n n (mr n fun h => .int .i64 (lsum (fun q => occ E (O q) h) LN (p + 1) : Nat)) := by
        have e : (fun h => Value.int .i64 (lsum (fun q => occ E (O q) h) LN (p + 1) : Nat)) = fun h => Value.int .i64 (lsum (fun q => occ E (O q) h) LN p : Nat) := by funext h; simp [lsum, hl]
        rw [e]; exact hC2
      obtain ⟨xf, hxa, hxf⟩ := fr_of a hS.sz hS.df
      have hq18 := (hxf 18).symm.trans hS.s18
      have hq19 := (hxf 19).symm.trans hS.s19
      have hq20 := (hxf 20).symm.trans hS.s20
      have hq26 := (hxf 26).symm.trans hS.s26
      have hq27 := (hxf 27).symm.trans hS.s27
      have hq29 := (hxf 29).symm.trans hS.s29
      have hq30 := (hxf 30).symm.trans hS.s30
      have hq31 := (hxf 31).symm.trans hS.s31
      have hq32 := (hxf 32).symm.trans hS.s32
      have hq33 := (hxf 33).symm.trans hS.s33
      have hq34 := (hxf 34).symm.trans hS.s34
      have hq39 := (hxf 39).symm.trans hS.s39
      have hq42 := (hxf 42).symm.trans hS.s42
      have hq43 := (hxf 43).symm.trans hS.s43
      have hq44 := (hxf 44).symm.trans hS.s44
      have hq52 := (hxf 52).symm.trans hS.s52
      have hq54 := (hxf 54).symm.trans hS.s54
      have hq55 := (hxf 55).symm.trans hS.s55
      have hq56 := (hxf 56).symm.trans h56
      subst hxa
      conv => arg 4; simp only [fr, hq18, hq19, hq20, hq26, hq27, hq29, hq30, hq31, hq32, hq33, hq34, hq39, hq42, hq43, hq44, hq52, hq54, hq55, hq56]
      clear hxf hS h56 hq18 hq19 hq20 hq26 hq27 hq29 hq30 hq31 hq32 hq33 hq34 hq39 hq42 hq43 hq44 hq52 hq54 hq55 hq56
      go_upto_region 96 with (fail)
      generalize wr.setCell ⟨gN, p, none⟩ (.bool false) = wd at *
      go_wp2_with fail
      exact ⟨⟨p + 1, by omega, by go_num, ⟨rfl, rfl, rfl, rfl, rfl, rfl, rfl, rfl, rfl, rfl, rfl, rfl, rfl, rfl, rfl, rfl, rfl, rfl, rfl, rfl⟩, hB2, hN2, hC3⟩, by rw [Hmo.out]; show n - ((p : Int) + 1).toNat < _; omega⟩
    · simp only [hx, hy, Bool.true_and, Bool.not_false] at cP cK hl
      rw [hl] at hN2 hC2 hB2 cN cO hrow
      have hC3 : Arr (wr.setCell ⟨gN, p, none⟩ (.bool true)) gC 3 n n (mr n fun h => .int .i64 (cntTo O E LN p 0 h : Nat)) := by
        have e : (fun h => Value.int .i64 (cntTo O E LN p 0 h : Nat)) = fun h => Value.int .i64 (lsum (fun q => occ E (O q) h) LN p : Nat) := by funext h; rw [cntTo_zero]
        rw [e]; exact hC2
      clear hC2
      obtain ⟨ra, rp, hform⟩ := row_form hrow
      rw [hform] at cO
      have hfb := hb5 p
      rw [hform] at hfb
      obtain ⟨xf, hxa, hxf⟩ := fr_of a hS.sz hS.df
      have hq18 := (hxf 18).symm.trans hS.s18
      have hq19 := (hxf 19).symm.trans hS.s19
      have hq20 := (hxf 20).symm.trans hS.s20
      have hq26 := (hxf 26).symm.trans hS.s26
      have hq27 := (hxf 27).symm.trans hS.s27
      have hq29 := (hxf 29).symm.trans hS.s29
      have hq30 := (hxf 30).symm.trans hS.s30
      have hq31 := (hxf 31).symm.trans hS.s31
      have hq32 := (hxf 32).symm.trans hS.s32
      have hq33 := (hxf 33).symm.trans hS.s33
      have hq34 := (hxf 34).symm.trans hS.s34
      have hq39 := (hxf 39).symm.trans hS.s39
      have hq42 := (hxf 42).symm.trans hS.s42
      have hq43 := (hxf 43).symm.trans hS.s43
      have hq44 := (hxf 44).symm.trans hS.s44
      have hq52 := (hxf 52).symm.trans hS.s52
      have hq54 := (hxf 54).symm.trans hS.s54
      have hq55 := (hxf 55).symm.trans hS.s55
      have hq56 := (hxf 56).symm.trans h56
      subst hxa
      conv => arg 4; simp only [fr, hq18, hq19, hq20, hq26, hq27, hq29, hq30, hq31, hq32, hq33, hq34, hq39, hq42, hq43, hq44, hq52, hq54, hq55, hq56]
      clear hxf hS h56 hq18 hq19 hq20 hq26 hq27 hq29 hq30 hq31 hq32 hq33 hq34 hq39 hq42 hq43 hq44 hq52 hq54 hq55 hq56
      go_upto_region 96 with (fail)
      generalize wr.setCell ⟨gN, p, none⟩ (.bool true) = wd at *
      go_wp2_with fail
      refine wp_loop (fun a w' => ∃ k : Nat, k ≤ (O p).length ∧ a.tmps.getD 376 undef = .int .i64 (k : Int) ∧ a.tmps.getD 56 undef = .int .i64 (p : Int) ∧ a.tmps.getD 374 undef = .slice ra (O p).length rp ∧ a.tmps.getD 375 undef = .int .i64 ((O p).length : Int) ∧ S32 a n gO gOc mm gE gEc cEc gB gI gA gL gK gV lv gVc cVc gBc cBc gP FL gN gC ∧ Below B1 w w' ∧ Arr w' gN 4 n n (mr n (lnTo LN (p + 1))) ∧ Arr w' gC 3 n n (mr n fun h => .int .i64 (cntTo O E LN p k h : Nat))) (fun a _ => (O p).length - (intOf (a.tmps.getD 376 undef)).toNat) ⟨0, Nat.zero_le _, rfl, rfl, rfl, rfl, ⟨rfl, rfl, rfl, rfl, rfl, rfl, rfl, rfl, rfl, rfl, rfl, rfl, rfl, rfl, rfl, rfl, rfl, rfl, rfl, rfl⟩, hB2, hN2, hC3⟩ (fun a wx hI => ?_)
      clear hB2 hN2 hC3 cN cO cP cK hrow
      obtain ⟨k, hk, h376, h56, h374, h375, hS, hB, hN, hC⟩ := hI
      have hOl : (O p).length ≤ 65536 := Nat.le_trans (lsum_ge (fun p => (O p).length) p n hlt) hT
      have Hmu : Hid ((O p).length - (intOf (a.tmps.getD 376 undef)).toNat = (O p).length - k) := by show _ = _; rw [h376]; simp [intOf]
      by_cases hkl : k < (O p).length
      · have hrow := row_blk (HR.out p hlt) (fun g hg => hB.block g (hb5 p g hlt hg))
        obtain ⟨gr, cr, hf, cH⟩ := getD_cell hrow hkl
        rw [hform] at hf
        simp only [Value.slice.injEq, true_and] at hf
        obtain ⟨rfl, rfl⟩ := hf
        have hst := cntTo_step O E LN p k hkl
        have hle := cntTo_le O E LN n p k ((O p).getD k 0) hlt hT
        have hxn := hO p hlt _ (getD_mem hkl)
        generalize (O p).getD k 0 = x at *
        have cE := (aE.below hB hb2).mr x hxn
        have cC := hC.mr x hxn
        have fC := hC.fr x
        clear hrow
        cases hE : E x
        · simp only [hE, Bool.false_eq_true, if_false] at cE hst
          have hC2 := hC.setMr x (.int .i64 ((cntTo O E LN p k x : Int) + 1))
          have hN2 := hN.other gC x (.int .i64 ((cntTo O E LN p k x : Int) + 1)) nNC
          have hB2 := below_set hB gC x (.int .i64 ((cntTo O E LN p k x : Int) + 1)) hb7
          rw [← hst] at hC2
          clear hC hN hB
          generalize cntTo O E LN p k x = cv at *
          have b5 : IntKind.i64.wrap ((cv : Int) + 1) = (cv : Int) + 1 := IntWalk.i64_in _ (by omega)
          obtain ⟨xf, hxa, hxf⟩ := fr_of a hS.sz hS.df
          have hq18 := (hxf 18).symm.trans hS.s18
          have hq19 := (hxf 19).symm.trans hS.s19
          have hq20 := (hxf 20).symm.trans hS.s20
          have hq26 := (hxf 26).symm.trans hS.s26
          have hq27 := (hxf 27).symm.trans hS.s27
          have hq29 := (hxf 29).symm.trans hS.s29
          have hq30 := (hxf 30).symm.trans hS.s30
          have hq31 := (hxf 31).symm.trans hS.s31
          have hq32 := (hxf 32).symm.trans hS.s32
          have hq33 := (hxf 33).symm.trans hS.s33
          have hq34 := (hxf 34).symm.trans hS.s34
          have hq39 := (hxf 39).symm.trans hS.s39
          have hq42 := (hxf 42).symm.trans hS.s42
          have hq43 := (hxf 43).symm.trans hS.s43
          have hq44 := (hxf 44).symm.trans hS.s44
          have hq52 := (hxf 52).symm.trans hS.s52
          have hq54 := (hxf 54).symm.trans hS.s54
          have hq55 := (hxf 55).symm.trans hS.s55
          have hq56 := (hxf 56).symm.trans h56
          have hq374 := (hxf 374).symm.trans h374
          have hq375 := (hxf 375).symm.trans h375
          have hq376 := (hxf 376).symm.trans h376
          subst hxa
          conv => arg 4; simp only [fr, hq18, hq19, hq20, hq26, hq27, hq29, hq30, hq31, hq32, hq33, hq34, hq39, hq42, hq43, hq44, hq52, hq54, hq55, hq56, hq374, hq375, hq376]
          clear hxf hS h56 h374 h375 h376 hq18 hq19 hq20 hq26 hq27 hq29 hq30 hq31 hq32 hq33 hq34 hq39 hq42 hq43 hq44 hq52 hq54 hq55 hq56 hq374 hq375 hq376
          go_wp2_with fail
          exact ⟨⟨k + 1, by omega, by go_num, rfl, rfl, rfl, ⟨rfl, rfl, rfl, rfl, rfl, rfl, rfl, rfl, rfl, rfl, rfl, rfl, rfl, rfl, rfl, rfl, rfl, rfl, rfl, rfl⟩, hB2, hN2, hC2⟩, by rw [Hmu.out]; show (O p).length - ((k : Int) + 1).toNat < _; omega⟩
        · simp only [hE, if_true] at cE hst
          rw [← hst] at hC
          clear cC
          obtain ⟨xf, hxa, hxf⟩ := fr_of a hS.sz hS.df
          have hq18 := (hxf 18).symm.trans hS.s18
          have hq19 := (hxf 19).symm.trans hS.s19
          have hq20 := (hxf 20).symm.trans hS.s20
          have hq26 := (hxf 26).symm.trans hS.s26
          have hq27 := (hxf 27).symm.trans hS.s27
          have hq29 := (hxf 29).symm.trans hS.s29
          have hq30 := (hxf 30).symm.trans hS.s30
          have hq31 := (hxf 31).symm.trans hS.s31
          have hq32 := (hxf 32).symm.trans hS.s32
          have hq33 := (hxf 33).symm.trans hS.s33
          have hq34 := (hxf 34).symm.trans hS.s34
          have hq39 := (hxf 39).symm.trans hS.s39
          have hq42 := (hxf 42).symm.trans hS.s42
          have hq43 := (hxf 43).symm.trans hS.s43
          have hq44 := (hxf 44).symm.trans hS.s44
          have hq52 := (hxf 52).symm.trans hS.s52
          have hq54 := (hxf 54).symm.trans hS.s54
          have hq55 := (hxf 55).symm.trans hS.s55
          have hq56 := (hxf 56).symm.trans h56
          have hq374 := (hxf 374).symm.trans h374
          have hq375 := (hxf 375).symm.trans h375
          have hq376 := (hxf 376).symm.trans h376
          subst hxa
          conv => arg 4; simp only [fr, hq18, hq19, hq20, hq26, hq27, hq29, hq30, hq31, hq32, hq33, hq34, hq39, hq42, hq43, hq44, hq52, hq54, hq55, hq56, hq374, hq375, hq376]
          clear hxf hS h56 h374 h375 h376 hq18 hq19 hq20 hq26 hq27 hq29 hq30 hq31 hq32 hq33 hq34 hq39 hq42 hq43 hq44 hq52 hq54 hq55 hq56 hq374 hq375 hq376
          go_wp2_with fail
          exact ⟨⟨k + 1, by omega, by go_num, rfl, rfl, rfl, ⟨rfl, rfl, rfl, rfl, rfl, rfl, rfl, rfl, rfl, rfl, rfl, rfl, rfl, rfl, rfl, rfl, rfl, rfl, rfl, rfl⟩, hB, hN, hC⟩, by rw [Hmu.out]; show (O p).length - ((k : Int) + 1).toNat < _; omega⟩
      · obtain rfl : k = (O p).length := by omega
        have hC2 : Arr wx gC 3 n n (mr n fun h => .int .i64 (lsum (fun q => occ E (O q) h) LN (p + 1) : Nat)) := by
          have e : (fun h => Value.int .i64 (cntTo O E LN p (O p).length h : Nat)) = fun h => Value.int .i64 (lsum (fun q => occ E (O q) h) LN (p + 1) : Nat) := by funext h; rw [cntTo_full _ _ _ _ _ hl]
          rw [← e]; exact hC
        clear hC
        obtain ⟨xf, hxa, hxf⟩ := fr_of a hS.sz hS.df
        have hq18 := (hxf 18).symm.trans hS.s18
        have hq19 := (hxf 19).symm.trans hS.s19
        have hq20 := (hxf 20).symm.trans hS.s20
        have hq26 := (hxf 26).symm.trans hS.s26
        have hq27 := (hxf 27).symm.trans hS.s27
        have hq29 := (hxf 29).symm.trans hS.s29
        have hq30 := (hxf 30).symm.trans hS.s30
        have hq31 := (hxf 31).symm.trans hS.s31
        have hq32 := (hxf 32).symm.trans hS.s32
        have hq33 := (hxf 33).symm.trans hS.s33
        have hq34 := (hxf 34).symm.trans hS.s34
        have hq39 := (hxf 39).symm.trans hS.s39
        have hq42 := (hxf 42).symm.trans hS.s42
        have hq43 := (hxf 43).symm.trans hS.s43
        have hq44 := (hxf 44).symm.trans hS.s44
        have hq52 := (hxf 52).symm.trans hS.s52
        have hq54 := (hxf 54).symm.trans hS.s54
        have hq55 := (hxf 55).symm.trans hS.s55
        have hq56 := (hxf 56).symm.trans h56
        have hq374 := (hxf 374).symm.trans h374
        have hq375 := (hxf 375).symm.trans h375
        have hq376 := (hxf 376).symm.trans h376
        subst hxa
        conv => arg 4; simp only [fr, hq18, hq19, hq20, hq26, hq27, hq29, hq30, hq31, hq32, hq33, hq34, hq39, hq42, hq43, hq44, hq52, hq54, hq55, hq56, hq374, hq375, hq376]
        clear hxf hS h56 h374 h375 h376 hq18 hq19 hq20 hq26 hq27 hq29 hq30 hq31 hq32 hq33 hq34 hq39 hq42 hq43 hq44 hq52 hq54 hq55 hq56 hq374 hq375 hq376
        go_wp2_with fail
        exact ⟨⟨p + 1, by omega, by go_num, ⟨rfl, rfl, rfl, rfl, rfl, rfl, rfl, rfl, rfl, rfl, rfl, rfl, rfl, rfl, rfl, rfl, rfl, rfl, rfl, rfl⟩, hB, hN, hC2⟩, by rw [Hmo.out]; show n - ((p : Int) + 1).toNat < _; omega⟩
  · obtain rfl : p = n := by omega
    have hN2 : Arr wr gN 4 p p (mr p fun i => .bool (LN i)) := by
      rw [mr_congr p (fun i => .bool (LN i)) (lnTo LN p) (fun j hj => by simp [lnTo, hj])]; exact hN
    clear hN
    obtain ⟨xf, hxa, hxf⟩ := fr_of a hS.sz hS.df
    have hq18 := (hxf 18).symm.trans hS.s18
    have hq19 := (hxf 19).symm.trans hS.s19
    have hq20 := (hxf 20).symm.trans hS.s20
    have hq26 := (hxf 26).symm.trans hS.s26
    have hq27 := (hxf 27).symm.trans hS.s27
    have hq29 := (hxf 29).symm.trans hS.s29
    have hq30 := (hxf 30).symm.trans hS.s30
    have hq31 := (hxf 31).symm.trans hS.s31
    have hq32 := (hxf 32).symm.trans hS.s32
    have hq33 := (hxf 33).symm.trans hS.s33
    have hq34 := (hxf 34).symm.trans hS.s34
    have hq39 := (hxf 39).symm.trans hS.s39
    have hq42 := (hxf 42).symm.trans hS.s42
    have hq43 := (hxf 43).symm.trans hS.s43
    have hq44 := (hxf 44).symm.trans hS.s44
    have hq52 := (hxf 52).symm.trans hS.s52
    have hq54 := (hxf 54).symm.trans hS.s54
    have hq55 := (hxf 55).symm.trans hS.s55
    have hq56 := (hxf 56).symm.trans h56
    subst hxa
    conv => arg 4; simp only [fr, hq18, hq19, hq20, hq26, hq27, hq29, hq30, hq31, hq32, hq33, hq34, hq39, hq42, hq43, hq44, hq52, hq54, hq55, hq56]
    clear hxf hS h56 hq18 hq19 hq20 hq26 hq27 hq29 hq30 hq31 hq32 hq33 hq34 hq39 hq42 hq43 hq44 hq52 hq54 hq55 hq56
    go_wp2_with fail
    exact HK.out _ _ (Hn.out _ _ ⟨rfl, rfl, rfl, rfl, rfl, rfl, rfl, rfl, rfl, rfl, rfl, rfl, rfl, rfl, rfl, rfl, rfl, rfl, rfl, rfl⟩ hB hN2 hC)
end Go.Proofs.Ybulkekys
