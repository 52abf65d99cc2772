import Derived.Test.YbulkekysFr
namespace Go.Proofs.Ybulkekys
open Go.RowKit

/-- The slots that the checks read. -/
structure Sl (a : Act) (n FL bd gOc gEc cEc gL gK gN gP gBc cBc gC mm : Nat) : Prop where
  sz : a.tmps.size = 632
  df : a.defers = []
  s18 : a.tmps.getD 18 undef = .int .i64 (n : Int)
  s20 : a.tmps.getD 20 undef = .slice (some ⟨gOc, 0, none⟩) n n
  s26 : a.tmps.getD 26 undef = .int .i64 (mm : Int)
  s29 : a.tmps.getD 29 undef = .slice (some ⟨gEc, 0, none⟩) n cEc
  s33 : a.tmps.getD 33 undef = .slice (some ⟨gL, 0, none⟩) n n
  s34 : a.tmps.getD 34 undef = .slice (some ⟨gK, 0, none⟩) n n
  s43 : a.tmps.getD 43 undef = .slice (some ⟨gBc, 0, none⟩) mm cBc
  s44 : a.tmps.getD 44 undef = .slice (some ⟨gP, 0, none⟩) n n
  s52 : a.tmps.getD 52 undef = .int .i64 (FL : Int)
  s54 : a.tmps.getD 54 undef = .slice (some ⟨gN, 0, none⟩) n n
  s55 : a.tmps.getD 55 undef = .slice (some ⟨gC, 0, none⟩) n n
  s59 : a.tmps.getD 59 undef = .pointer (some ⟨bd, 0, none⟩)

def fstC : Code → Code
  | .seq a _ => a
  | c => c
def sndC : Code → Code
  | .seq _ b => b
  | c => c
def inC : Code → Code
  | .block _ c => c
  | .loop c => c
  | c => c

set_option maxHeartbeats 8000000 in
set_option maxRecDepth 1000000 in
theorem r117 (B : Nat) (w0 w : World) (F : Nat → Prop) (n FL bd gOc gEc cEc gL gK gN gP gBc cBc gC mm : Nat) (O : Nat → List Nat) (E li LN P bg0 : Nat → Bool) (il cnt : Nat → Nat) (s : DS) (m : Mem) (rc : Nat → Value) (in0 : Nat → List (Int × Int))
    (a : Act) (i : Nat) (hi : i < FL) (hi61 : a.tmps.getD 61 undef = .int .i64 (i : Int)) (hS : Sl a n FL bd gOc gEc cEc gL gK gN gP gBc cBc gC mm) (h : Tl B w0 w F n FL bd gOc gEc cEc gL gK gN gP gBc cBc gC mm O E li LN P bg0 il cnt s m rc in0)
    (K : Act → World → Prop) (Q : Exit → Act → World → Prop)
    (hK : ∀ a' q, a'.tmps.getD 61 undef = .int .i64 (i : Int) → a'.tmps.getD 494 undef = .bool false → Sl a' n FL bd gOc gEc cEc gL gK gN gP gBc cBc gC mm → K a' (w.drewN q)) :
    Code.wp Yba.prog (fstC (fstC (inC (fstC (sndC (inC (inC (sndC (fstC (dropSeq 37 (Yba.f4.body.getD .skip)))))))))))  (Exit.then K Q) a w := by
  have hF1 := h.hFL
  have hF2 := h.hn
  obtain ⟨xf, hxa, hxf⟩ := fr_of a hS.sz hS.df
  have hq18 := (hxf 18).symm.trans hS.s18
  have hq20 := (hxf 20).symm.trans hS.s20
  have hq26 := (hxf 26).symm.trans hS.s26
  have hq29 := (hxf 29).symm.trans hS.s29
  have hq33 := (hxf 33).symm.trans hS.s33
  have hq34 := (hxf 34).symm.trans hS.s34
  have hq43 := (hxf 43).symm.trans hS.s43
  have hq44 := (hxf 44).symm.trans hS.s44
  have hq52 := (hxf 52).symm.trans hS.s52
  have hq54 := (hxf 54).symm.trans hS.s54
  have hq55 := (hxf 55).symm.trans hS.s55
  have hq59 := (hxf 59).symm.trans hS.s59
  have hq61 := (hxf 61).symm.trans hi61
  subst hxa
  conv => arg 4; simp only [fr, hq18, hq20, hq26, hq29, hq33, hq34, hq43, hq44, hq52, hq54, hq55, hq59, hq61]
  clear hxf hS hi61 hq18 hq20 hq26 hq29 hq33 hq34 hq43 hq44 hq52 hq54 hq55 hq59 hq61
  have hin' : i < n := by omega
  have c15 := h.hX.cB
  have c1 := h.hX.bg.mr i (by rw [h.hlB]; exact hi)
  rw [h.hlB] at c15
  rw [h.hbg i hi] at c1
  have cP := h.aP.mr i hin'
  have hb0 := h.hb0 i
  have b1 : (0 : Int) ≤ (i : Int) := Int.natCast_nonneg _
  have b2 : (i : Int) < (n : Int) := by omega
  have b3 : (i : Int) < (FL : Int) := by omega
  have hpp : (P i != P i) = false := by simp
  have HK : Hid _ := hK
  conv => arg 2; whnf
  by_cases hm : i < mm
  · have c2 := h.aBc.mr i hm
    have b4 : (i : Int) < (mm : Int) := by omega
    clear hb0 h hK
    cases e1 : bg0 i
    · simp only [e1, Bool.false_or] at c1 c2
      generalize P i = p at *
      go_quiet (fail)
      go_wp2_with fail
      exact HK.out _ _ rfl rfl ⟨rfl, rfl, rfl, rfl, rfl, rfl, rfl, rfl, rfl, rfl, rfl, rfl, rfl, rfl⟩
    · simp only [e1, Bool.true_or] at c1 c2
      go_quiet (fail)
      go_wp2_with fail
      exact HK.out _ _ rfl rfl ⟨rfl, rfl, rfl, rfl, rfl, rfl, rfl, rfl, rfl, rfl, rfl, rfl, rfl, rfl⟩
  · have e1 := hb0 (by omega)
    have b4 : ¬ (i : Int) < (mm : Int) := by omega
    clear hb0 h hK
    simp only [e1, Bool.false_or] at c1
    generalize P i = p at *
    go_quiet (fail)
    go_wp2_with fail
    exact HK.out _ _ rfl rfl ⟨rfl, rfl, rfl, rfl, rfl, rfl, rfl, rfl, rfl, rfl, rfl, rfl, rfl, rfl⟩

set_option maxHeartbeats 8000000 in
set_option maxRecDepth 1000000 in
theorem tail37 (B : Nat) (w0 w : World) (F : Nat → Prop) (n FL bd gOc gEc cEc gL gK gN gP gBc cBc gC mm : Nat) (O : Nat → List Nat) (E li LN P bg0 : Nat → Bool) (il cnt : Nat → Nat) (s : DS) (m : Mem) (rc : Nat → Value) (in0 : Nat → List (Int × Int))
    (a : Act) (hS : Sl a n FL bd gOc gEc cEc gL gK gN gP gBc cBc gC mm) (h : Tl B w0 w F n FL bd gOc gEc cEc gL gK gN gP gBc cBc gC mm O E li LN P bg0 il cnt s m rc in0)
    (next : ∀ a' w', Sl a' n FL bd gOc gEc cEc gL gK gN gP gBc cBc gC mm → Tl B w0 w' F n FL bd gOc gEc cEc gL gK gN gP gBc cBc gC mm O E li LN P bg0 il cnt s m rc in0 → Code.wp Yba.prog (dropSeq 38 (Yba.f4.body.getD .skip)) (bodyPost Yba.prog Yba.f4 (LPost B w0)) a' w') :
    Code.wp Yba.prog (dropSeq 37 (Yba.f4.body.getD .skip)) (bodyPost Yba.prog Yba.f4 (LPost B w0)) a w := by
  have Hn : Hid _ := next
  clear next
  have hF1 := h.hFL
  have hF2 := h.hn
  obtain ⟨xf, hxa, hxf⟩ := fr_of a hS.sz hS.df
  have hq18 := (hxf 18).symm.trans hS.s18
  have hq20 := (hxf 20).symm.trans hS.s20
  have hq26 := (hxf 26).symm.trans hS.s26
  have hq29 := (hxf 29).symm.trans hS.s29
  have hq33 := (hxf 33).symm.trans hS.s33
  have hq34 := (hxf 34).symm.trans hS.s34
  have hq43 := (hxf 43).symm.trans hS.s43
  have hq44 := (hxf 44).symm.trans hS.s44
  have hq52 := (hxf 52).symm.trans hS.s52
  have hq54 := (hxf 54).symm.trans hS.s54
  have hq55 := (hxf 55).symm.trans hS.s55
  have hq59 := (hxf 59).symm.trans hS.s59
  subst hxa
  conv => arg 4; simp only [fr, hq18, hq20, hq26, hq29, hq33, hq34, hq43, hq44, hq52, hq54, hq55, hq59]
  clear hxf hS  hq18 hq20 hq26 hq29 hq33 hq34 hq43 hq44 hq52 hq54 hq55 hq59
  conv => arg 2; whnf
  refine wp_seq_k (fun K hK => ?_)
  have HK : Hid _ := hK
  clear hK
  go_wp2_with fail
  refine wp_loop (fun a w => ∃ i : Nat, i ≤ FL ∧ a.tmps.getD 61 undef = .int .i64 (i : Int) ∧ Sl a n FL bd gOc gEc cEc gL gK gN gP gBc cBc gC mm ∧ Tl B w0 w F n FL bd gOc gEc cEc gL gK gN gP gBc cBc gC mm O E li LN P bg0 il cnt s m rc in0) (fun a _ => FL - (intOf (a.tmps.getD 61 undef)).toNat) ⟨0, Nat.zero_le _, rfl, ⟨rfl, rfl, rfl, rfl, rfl, rfl, rfl, rfl, rfl, rfl, rfl, rfl, rfl, rfl⟩, h⟩ (fun a wr hI => ?_)
  clear h
  obtain ⟨i, hi, hi61, hS, h⟩ := hI
  have Hmo : Hid (FL - (intOf (a.tmps.getD 61 undef)).toNat = FL - i) := by show _ = _; rw [hi61]; simp [intOf]
  by_cases hlt : i < FL
  · have hin' : i < n := by omega
    obtain ⟨xf, hxa, hxf⟩ := fr_of a hS.sz hS.df
    have hq18 := (hxf 18).symm.trans hS.s18
    have hq20 := (hxf 20).symm.trans hS.s20
    have hq26 := (hxf 26).symm.trans hS.s26
    have hq29 := (hxf 29).symm.trans hS.s29
    have hq33 := (hxf 33).symm.trans hS.s33
    have hq34 := (hxf 34).symm.trans hS.s34
    have hq43 := (hxf 43).symm.trans hS.s43
    have hq44 := (hxf 44).symm.trans hS.s44
    have hq52 := (hxf 52).symm.trans hS.s52
    have hq54 := (hxf 54).symm.trans hS.s54
    have hq55 := (hxf 55).symm.trans hS.s55
    have hq59 := (hxf 59).symm.trans hS.s59
    have hq61 := (hxf 61).symm.trans hi61
    subst hxa
    conv => arg 4; simp only [fr, hq18, hq20, hq26, hq29, hq33, hq34, hq43, hq44, hq52, hq54, hq55, hq59, hq61]
    clear hxf hS hi61 hq18 hq20 hq26 hq29 hq33 hq34 hq43 hq44 hq52 hq54 hq55 hq59 hq61
    go_upto_region 117 with (fail)
    refine r117 B w0 wr F n FL bd gOc gEc cEc gL gK gN gP gBc cBc gC mm O E li LN P bg0 il cnt s m rc in0 _ i hlt rfl ⟨rfl, rfl, rfl, rfl, rfl, rfl, rfl, rfl, rfl, rfl, rfl, rfl, rfl, rfl⟩ h _ _ (fun a' q hi61 h494 hS => ?_)
    have h2 := h.drewN q
    clear h
    generalize wr.drewN q = wa at *
    have c16 := h2.hX.cI
    rw [h2.hlI] at c16
    have c1 := h2.hX.inn.mr i (by rw [h2.hlI]; exact hlt)
    have hir := h2.hX.inRow i (by rw [h2.hlI]; exact hlt)
    obtain ⟨ra, rp, hform⟩ := row_form hir
    rw [hform] at c1 hir
    have hln := h2.hlen i hlt
    have hbd := h2.hin i
    rw [hln] at hir c1 hbd
    have c2 := h2.aL.mr i hin'
    have c3 := h2.aC.mr i hin'
    have Hpre : Hid (∀ j, j < il i → (s.inn i)[j]? = some (-1, (j : Int))) := h2.hpre i
    have Hir : Hid (wa.ownsRow 0 39 2 (.slice ra (il i + cnt i) rp) (il i + cnt i) (lcells (s.inn i))) := hir
    have H2 : Hid _ := h2
    clear hir hln h2 hform
    generalize hx : il i = x at *
    generalize hy : cnt i = y at *
    have b1 : (0 : Int) ≤ (i : Int) := Int.natCast_nonneg _
    have b2 : (i : Int) < (n : Int) := by omega
    have b5 : IntKind.i64.wrap ((x : Int) + (y : Int)) = (x : Int) + (y : Int) := IntWalk.i64_in _ (by omega)
    obtain ⟨xf, hxa, hxf⟩ := fr_of a' hS.sz hS.df
    have hq18 := (hxf 18).symm.trans hS.s18
    have hq20 := (hxf 20).symm.trans hS.s20
    have hq26 := (hxf 26).symm.trans hS.s26
    have hq29 := (hxf 29).symm.trans hS.s29
    have hq33 := (hxf 33).symm.trans hS.s33
    have hq34 := (hxf 34).symm.trans hS.s34
    have hq43 := (hxf 43).symm.trans hS.s43
    have hq44 := (hxf 44).symm.trans hS.s44
    have hq52 := (hxf 52).symm.trans hS.s52
    have hq54 := (hxf 54).symm.trans hS.s54
    have hq55 := (hxf 55).symm.trans hS.s55
    have hq59 := (hxf 59).symm.trans hS.s59
    have hq61 := (hxf 61).symm.trans hi61
    have hq494 := (hxf 494).symm.trans h494
    subst hxa
    simp only [fr, hq18, hq20, hq26, hq29, hq33, hq34, hq43, hq44, hq52, hq54, hq55, hq59, hq61, hq494]
    clear hxf hS hi61 h494 hq18 hq20 hq26 hq29 hq33 hq34 hq43 hq44 hq52 hq54 hq55 hq59 hq61 hq494
    go_upto_region 120 with (fail)
    go_quiet (fail)
    have H3 : Hid _ := H2.out.drewN nq
    have c4 := H3.out.aL.mr i hin'
    rw [hx] at c4
    have hir : (wa.drewN nq).ownsRow 0 39 2 (.slice ra (x + y) rp) (x + y) (lcells (s.inn i)) := row_blk Hir.out (fun g _ => rfl)
    clear H2 Hir c16 c1 c2 c3
    generalize wa.drewN nq = wd at *
    go_wp2_with fail
    refine wp_loop (fun a w' => ∃ k : Nat, k ≤ x ∧ a.tmps.getD 63 undef = .int .i64 (k : Int) ∧ a.tmps.getD 61 undef = .int .i64 (i : Int) ∧ a.tmps.getD 62 undef = .slice ra (x + y) rp ∧ Sl a n FL bd gOc gEc cEc gL gK gN gP gBc cBc gC mm ∧ w' = wd) (fun a _ => x - (intOf (a.tmps.getD 63 undef)).toNat) ⟨0, Nat.zero_le _, rfl, rfl, rfl, ⟨rfl, rfl, rfl, rfl, rfl, rfl, rfl, rfl, rfl, rfl, rfl, rfl, rfl, rfl⟩, rfl⟩ (fun a wx hI => ?_)
    obtain ⟨k, hk, h63, h61, h62, hS, hwx⟩ := hI
    subst hwx
    have Hmu : Hid (x - (intOf (a.tmps.getD 63 undef)).toNat = x - k) := by show _ = _; rw [h63]; simp [intOf]
    by_cases hkl : k < x
    · obtain ⟨gr, cr, hf, _, _⟩ := World.ownsRow.form hir (by omega)
      simp only [Value.slice.injEq, true_and] at hf
      obtain ⟨rfl, rfl⟩ := hf
      obtain ⟨hl1, hl2⟩ := lcells_at _ _ _ _ (Hpre.out k hkl)
      have e1 := row_cell hir _ _ hl1
      have e2 := row_cell hir _ _ hl2
      clear hir hl1 hl2
      obtain ⟨xf, hxa, hxf⟩ := fr_of a hS.sz hS.df
      have hq18 := (hxf 18).symm.trans hS.s18
      have hq20 := (hxf 20).symm.trans hS.s20
      have hq26 := (hxf 26).symm.trans hS.s26
      have hq29 := (hxf 29).symm.trans hS.s29
      have hq33 := (hxf 33).symm.trans hS.s33
      have hq34 := (hxf 34).symm.trans hS.s34
      have hq43 := (hxf 43).symm.trans hS.s43
      have hq44 := (hxf 44).symm.trans hS.s44
      have hq52 := (hxf 52).symm.trans hS.s52
      have hq54 := (hxf 54).symm.trans hS.s54
      have hq55 := (hxf 55).symm.trans hS.s55
      have hq59 := (hxf 59).symm.trans hS.s59
      have hq61 := (hxf 61).symm.trans h61
      have hq62 := (hxf 62).symm.trans h62
      have hq63 := (hxf 63).symm.trans h63
      subst hxa
      conv => arg 4; simp only [fr, hq18, hq20, hq26, hq29, hq33, hq34, hq43, hq44, hq52, hq54, hq55, hq59, hq61, hq62, hq63]
      clear hxf hS h61 h62 h63 hq18 hq20 hq26 hq29 hq33 hq34 hq43 hq44 hq52 hq54 hq55 hq59 hq61 hq62 hq63
      go_wp2_with fail
      exact ⟨⟨k + 1, by omega, by go_num, rfl, rfl, ⟨rfl, rfl, rfl, rfl, rfl, rfl, rfl, rfl, rfl, rfl, rfl, rfl, rfl, rfl⟩, by first | rfl | trivial⟩, by rw [Hmu.out]; show x - ((k : Int) + 1).toNat < _; omega⟩
    · clear hir
      obtain ⟨xf, hxa, hxf⟩ := fr_of a hS.sz hS.df
      have hq18 := (hxf 18).symm.trans hS.s18
      have hq20 := (hxf 20).symm.trans hS.s20
      have hq26 := (hxf 26).symm.trans hS.s26
      have hq29 := (hxf 29).symm.trans hS.s29
      have hq33 := (hxf 33).symm.trans hS.s33
      have hq34 := (hxf 34).symm.trans hS.s34
      have hq43 := (hxf 43).symm.trans hS.s43
      have hq44 := (hxf 44).symm.trans hS.s44
      have hq52 := (hxf 52).symm.trans hS.s52
      have hq54 := (hxf 54).symm.trans hS.s54
      have hq55 := (hxf 55).symm.trans hS.s55
      have hq59 := (hxf 59).symm.trans hS.s59
      have hq61 := (hxf 61).symm.trans h61
      have hq62 := (hxf 62).symm.trans h62
      have hq63 := (hxf 63).symm.trans h63
      subst hxa
      conv => arg 4; simp only [fr, hq18, hq20, hq26, hq29, hq33, hq34, hq43, hq44, hq52, hq54, hq55, hq59, hq61, hq62, hq63]
      clear hxf hS h61 h62 h63 hq18 hq20 hq26 hq29 hq33 hq34 hq43 hq44 hq52 hq54 hq55 hq59 hq61 hq62 hq63
      go_wp2_with fail
      exact ⟨⟨i + 1, by omega, by go_num, ⟨rfl, rfl, rfl, rfl, rfl, rfl, rfl, rfl, rfl, rfl, rfl, rfl, rfl, rfl⟩, H3.out⟩, by rw [Hmo.out]; show FL - ((i : Int) + 1).toNat < _; omega⟩
  · have hS' := hS
    obtain ⟨xf, hxa, hxf⟩ := fr_of a hS.sz hS.df
    have hq18 := (hxf 18).symm.trans hS.s18
    have hq20 := (hxf 20).symm.trans hS.s20
    have hq26 := (hxf 26).symm.trans hS.s26
    have hq29 := (hxf 29).symm.trans hS.s29
    have hq33 := (hxf 33).symm.trans hS.s33
    have hq34 := (hxf 34).symm.trans hS.s34
    have hq43 := (hxf 43).symm.trans hS.s43
    have hq44 := (hxf 44).symm.trans hS.s44
    have hq52 := (hxf 52).symm.trans hS.s52
    have hq54 := (hxf 54).symm.trans hS.s54
    have hq55 := (hxf 55).symm.trans hS.s55
    have hq59 := (hxf 59).symm.trans hS.s59
    have hq61 := (hxf 61).symm.trans hi61
    subst hxa
    conv => arg 4; simp only [fr, hq18, hq20, hq26, hq29, hq33, hq34, hq43, hq44, hq52, hq54, hq55, hq59, hq61]
    clear hxf hS hi61 hq18 hq20 hq26 hq29 hq33 hq34 hq43 hq44 hq52 hq54 hq55 hq59 hq61
    clear hS'
    go_wp2_with fail
    exact HK.out _ _ (Hn.out _ _ ⟨rfl, rfl, rfl, rfl, rfl, rfl, rfl, rfl, rfl, rfl, rfl, rfl, rfl, rfl⟩ h)
end Go.Proofs.Ybulkekys
