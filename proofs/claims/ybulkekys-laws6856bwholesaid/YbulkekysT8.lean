import Derived.Test.YbulkekysT7
namespace Go.Proofs.Ybulkekys
open Go.RowKit

set_option maxHeartbeats 8000000 in
set_option maxRecDepth 1000000 in
theorem tail38 (B : Nat) (w0 w : World) (F : Nat → Prop) (n FL bd gOc gEc cEc gL gK gN gP gBc cBc gC mm : Nat) (O : Nat → List Nat) (E li LN P bg0 : Nat → Bool) (il cnt : Nat → Nat) (s : DS) (m : Mem) (rc : Nat → Value) (in0 : Nat → List (Int × Int))
    (a : Act) (hS0 : Sl a n FL bd gOc gEc cEc gL gK gN gP gBc cBc gC mm) (h : Tl B w0 w F n FL bd gOc gEc cEc gL gK gN gP gBc cBc gC mm O E li LN P bg0 il cnt s m rc in0) :
    Code.wp Yba.prog (dropSeq 38 (Yba.f4.body.getD .skip)) (bodyPost Yba.prog Yba.f4 (LPost B w0)) a w := by
  obtain ⟨hB, hn, hFL, hX, _, hlI, hlA, aOc, hrc, aEc, aL, aK, aN, _, _, _, hO, hOl, hil, hin, hS, _, _, _, _⟩ := h
  have c17 := hX.cA
  have c16 := hX.cI
  rw [hlA] at c17
  rw [hlI] at c16
  have HB : Hid (Below B w0 w) := hB
  have HX : Hid (DetX F n O E w bd s m) := hX
  clear hX hB
  obtain ⟨xf, hxa, hxf⟩ := fr_of a hS0.sz hS0.df
  have hq18 := (hxf 18).symm.trans hS0.s18
  have hq20 := (hxf 20).symm.trans hS0.s20
  have hq26 := (hxf 26).symm.trans hS0.s26
  have hq29 := (hxf 29).symm.trans hS0.s29
  have hq33 := (hxf 33).symm.trans hS0.s33
  have hq34 := (hxf 34).symm.trans hS0.s34
  have hq43 := (hxf 43).symm.trans hS0.s43
  have hq44 := (hxf 44).symm.trans hS0.s44
  have hq52 := (hxf 52).symm.trans hS0.s52
  have hq54 := (hxf 54).symm.trans hS0.s54
  have hq55 := (hxf 55).symm.trans hS0.s55
  have hq59 := (hxf 59).symm.trans hS0.s59
  subst hxa
  conv => arg 4; simp only [fr, hq18, hq20, hq26, hq29, hq33, hq34, hq43, hq44, hq52, hq54, hq55, hq59]
  clear hxf hS0  hq18 hq20 hq26 hq29 hq33 hq34 hq43 hq44 hq52 hq54 hq55 hq59
  conv => arg 2; whnf
  go_wp2_with fail
  refine wp_loop (fun a w' => ∃ i : Nat, i ≤ FL ∧ a.tmps.getD 64 undef = .int .i64 (i : Int) ∧ Sl a n FL bd gOc gEc cEc gL gK gN gP gBc cBc gC mm ∧ w' = w) (fun a _ => FL - (intOf (a.tmps.getD 64 undef)).toNat) ⟨0, Nat.zero_le _, rfl, ⟨rfl, rfl, rfl, rfl, rfl, rfl, rfl, rfl, rfl, rfl, rfl, rfl, rfl, rfl⟩, rfl⟩ (fun a wr hI => ?_)
  obtain ⟨i, hi, hi64, hS0, hwr⟩ := hI
  subst hwr
  have Hmo : Hid (FL - (intOf (a.tmps.getD 64 undef)).toNat = FL - i) := by show _ = _; rw [hi64]; simp [intOf]
  by_cases hlt : i < FL
  · have hin' : i < n := by omega
    have c1 := HX.out.at_.mr i (by omega)
    have hrow := HX.out.atRow i (by omega)
    have hS1 := hS i hlt
    have cN := aN.mr i hin'
    have cK := aK.mr i hin'
    cases hLN : LN i
    · simp only [hLN] at cN
      cases hli : li i
      · simp only [hli] at cK
        have h0 := hS1.2.2 hLN hli
        rw [h0] at hrow
        obtain ⟨ra, rcp, hform⟩ := row_form hrow
        rw [hform] at c1
        simp only [List.length_nil] at c1
        clear hS1 hrow
        obtain ⟨xf, hxa, hxf⟩ := fr_of a hS0.sz hS0.df
        have hq18 := (hxf 18).symm.trans hS0.s18
        have hq20 := (hxf 20).symm.trans hS0.s20
        have hq26 := (hxf 26).symm.trans hS0.s26
        have hq29 := (hxf 29).symm.trans hS0.s29
        have hq33 := (hxf 33).symm.trans hS0.s33
        have hq34 := (hxf 34).symm.trans hS0.s34
        have hq43 := (hxf 43).symm.trans hS0.s43
        have hq44 := (hxf 44).symm.trans hS0.s44
        have hq52 := (hxf 52).symm.trans hS0.s52
        have hq54 := (hxf 54).symm.trans hS0.s54
        have hq55 := (hxf 55).symm.trans hS0.s55
        have hq59 := (hxf 59).symm.trans hS0.s59
        have hq64 := (hxf 64).symm.trans hi64
        subst hxa
        conv => arg 4; simp only [fr, hq18, hq20, hq26, hq29, hq33, hq34, hq43, hq44, hq52, hq54, hq55, hq59, hq64]
        clear hxf hS0 hi64 hq18 hq20 hq26 hq29 hq33 hq34 hq43 hq44 hq52 hq54 hq55 hq59 hq64
        go_wp2_with fail
        exact ⟨⟨i + 1, by omega, by go_num, ⟨rfl, rfl, rfl, rfl, rfl, rfl, rfl, rfl, rfl, rfl, rfl, rfl, rfl, rfl⟩, by first | rfl | trivial⟩, by rw [Hmo.out]; show FL - ((i : Int) + 1).toNat < _; omega⟩
      · simp only [hli] at cK
        have h0 := hS1.2.1 hLN hli
        rw [h0] at hrow
        obtain ⟨gr, rcp, hform, _, _⟩ := World.ownsRow.form hrow (by simp)
        rw [hform] at c1 hrow
        have c2 : wr.cell? ⟨gr, 0, none⟩ = some (.int .i64 (-7)) := row_cell hrow 0 _ rfl
        simp only [List.length_cons, List.length_nil, Nat.zero_add] at c1
        clear hS1 hrow
        obtain ⟨xf, hxa, hxf⟩ := fr_of a hS0.sz hS0.df
        have hq18 := (hxf 18).symm.trans hS0.s18
        have hq20 := (hxf 20).symm.trans hS0.s20
        have hq26 := (hxf 26).symm.trans hS0.s26
        have hq29 := (hxf 29).symm.trans hS0.s29
        have hq33 := (hxf 33).symm.trans hS0.s33
        have hq34 := (hxf 34).symm.trans hS0.s34
        have hq43 := (hxf 43).symm.trans hS0.s43
        have hq44 := (hxf 44).symm.trans hS0.s44
        have hq52 := (hxf 52).symm.trans hS0.s52
        have hq54 := (hxf 54).symm.trans hS0.s54
        have hq55 := (hxf 55).symm.trans hS0.s55
        have hq59 := (hxf 59).symm.trans hS0.s59
        have hq64 := (hxf 64).symm.trans hi64
        subst hxa
        conv => arg 4; simp only [fr, hq18, hq20, hq26, hq29, hq33, hq34, hq43, hq44, hq52, hq54, hq55, hq59, hq64]
        clear hxf hS0 hi64 hq18 hq20 hq26 hq29 hq33 hq34 hq43 hq44 hq52 hq54 hq55 hq59 hq64
        go_wp2_with fail
        exact ⟨⟨i + 1, by omega, by go_num, ⟨rfl, rfl, rfl, rfl, rfl, rfl, rfl, rfl, rfl, rfl, rfl, rfl, rfl, rfl⟩, by first | rfl | trivial⟩, by rw [Hmo.out]; show FL - ((i : Int) + 1).toNat < _; omega⟩
    · simp only [hLN] at cN
      obtain ⟨hal, hak⟩ := hS1.1 hLN
      have HS : Hid (∀ k, k < (O i).length → AtOk E i (O i) in0 s.inn (s.at_ i) k) := hak
      rw [hal] at hrow
      obtain ⟨ra, rp, hform⟩ := row_form hrow
      rw [hform] at c1 hrow
      have c3 := aOc.mr i hin'
      have hcr := hrc i hin'
      obtain ⟨ca, cp, hcform⟩ := row_form hcr
      rw [hcform] at c3 hcr
      have hol := hOl i hin'
      have HO := hO i hin'
      clear hS1 hak hal
      obtain ⟨xf, hxa, hxf⟩ := fr_of a hS0.sz hS0.df
      have hq18 := (hxf 18).symm.trans hS0.s18
      have hq20 := (hxf 20).symm.trans hS0.s20
      have hq26 := (hxf 26).symm.trans hS0.s26
      have hq29 := (hxf 29).symm.trans hS0.s29
      have hq33 := (hxf 33).symm.trans hS0.s33
      have hq34 := (hxf 34).symm.trans hS0.s34
      have hq43 := (hxf 43).symm.trans hS0.s43
      have hq44 := (hxf 44).symm.trans hS0.s44
      have hq52 := (hxf 52).symm.trans hS0.s52
      have hq54 := (hxf 54).symm.trans hS0.s54
      have hq55 := (hxf 55).symm.trans hS0.s55
      have hq59 := (hxf 59).symm.trans hS0.s59
      have hq64 := (hxf 64).symm.trans hi64
      subst hxa
      conv => arg 4; simp only [fr, hq18, hq20, hq26, hq29, hq33, hq34, hq43, hq44, hq52, hq54, hq55, hq59, hq64]
      clear hxf hS0 hi64 hq18 hq20 hq26 hq29 hq33 hq34 hq43 hq44 hq52 hq54 hq55 hq59 hq64
      go_wp2_with fail
      refine wp_loop (fun a w' => ∃ k : Nat, k ≤ (O i).length ∧ a.tmps.getD 558 undef = .int .i64 (k : Int) ∧ a.tmps.getD 64 undef = .int .i64 (i : Int) ∧ a.tmps.getD 65 undef = .slice ra (O i).length rp ∧ a.tmps.getD 556 undef = .slice ca (O i).length cp ∧ a.tmps.getD 557 undef = .int .i64 ((O i).length : Int) ∧ Sl a n FL bd gOc gEc cEc gL gK gN gP gBc cBc gC mm ∧ w' = wr) (fun a _ => (O i).length - (intOf (a.tmps.getD 558 undef)).toNat) ⟨0, Nat.zero_le _, rfl, rfl, rfl, rfl, rfl, ⟨rfl, rfl, rfl, rfl, rfl, rfl, rfl, rfl, rfl, rfl, rfl, rfl, rfl, rfl⟩, rfl⟩ (fun a wx hI => ?_)
      obtain ⟨k, hk, h558, h64, h65, h556, h557, hS0, hwx⟩ := hI
      subst hwx
      have Hmu : Hid ((O i).length - (intOf (a.tmps.getD 558 undef)).toNat = (O i).length - k) := by show _ = _; rw [h558]; simp [intOf]
      by_cases hkl : k < (O i).length
      · obtain ⟨gc, cc, hf, _, _⟩ := World.ownsRow.form hcr (by omega)
        simp only [Value.slice.injEq, true_and] at hf
        obtain ⟨rfl, rfl⟩ := hf
        obtain ⟨ga, ac, hf, _, _⟩ := World.ownsRow.form hrow (by omega)
        simp only [Value.slice.injEq, true_and] at hf
        obtain ⟨rfl, rfl⟩ := hf
        have e1 := row_cell hcr k _ (nv_at .i64 (O i) k hkl)
        have hh := HO _ (getD_mem hkl)
        have hA1 := HS.out k hkl
        unfold AtOk at hA1
        generalize (O i).getD k 0 = h at *
        have cE := aEc.mr h hh
        rcases hA1 with ⟨hE, hat⟩ | ⟨hE, q, hat, hq1, hq2⟩
        · simp only [hE] at cE
          have e2 := row_cell hrow k _ (icells_at _ _ _ hat)
          clear hrow hcr hat
          obtain ⟨xf, hxa, hxf⟩ := fr_of a hS0.sz hS0.df
          have hq18 := (hxf 18).symm.trans hS0.s18
          have hq20 := (hxf 20).symm.trans hS0.s20
          have hq26 := (hxf 26).symm.trans hS0.s26
          have hq29 := (hxf 29).symm.trans hS0.s29
          have hq33 := (hxf 33).symm.trans hS0.s33
          have hq34 := (hxf 34).symm.trans hS0.s34
          have hq43 := (hxf 43).symm.trans hS0.s43
          have hq44 := (hxf 44).symm.trans hS0.s44
          have hq52 := (hxf 52).symm.trans hS0.s52
          have hq54 := (hxf 54).symm.trans hS0.s54
          have hq55 := (hxf 55).symm.trans hS0.s55
          have hq59 := (hxf 59).symm.trans hS0.s59
          have hq64 := (hxf 64).symm.trans h64
          have hq65 := (hxf 65).symm.trans h65
          have hq556 := (hxf 556).symm.trans h556
          have hq557 := (hxf 557).symm.trans h557
          have hq558 := (hxf 558).symm.trans h558
          subst hxa
          conv => arg 4; simp only [fr, hq18, hq20, hq26, hq29, hq33, hq34, hq43, hq44, hq52, hq54, hq55, hq59, hq64, hq65, hq556, hq557, hq558]
          clear hxf hS0 h64 h65 h556 h557 h558 hq18 hq20 hq26 hq29 hq33 hq34 hq43 hq44 hq52 hq54 hq55 hq59 hq64 hq65 hq556 hq557 hq558
          go_wp2_with fail
          exact ⟨⟨k + 1, by omega, by go_num, rfl, rfl, rfl, rfl, ⟨rfl, rfl, rfl, rfl, rfl, rfl, rfl, rfl, rfl, rfl, rfl, rfl, rfl, rfl⟩, by first | rfl | trivial⟩, by rw [Hmu.out]; show (O i).length - ((k : Int) + 1).toNat < _; omega⟩
        · simp only [hE] at cE
          have e2 := row_cell hrow k _ (icells_at _ _ _ hat)
          have hql : q < (s.inn h).length := (List.getElem?_eq_some_iff.1 hq2).1
          have hhF : h < FL := by
            rcases Nat.lt_or_ge h m.lI with h1 | h1
            · omega
            · rw [HX.out.offI h h1] at hql; simp at hql
          have c4 := HX.out.inn.mr h (by omega)
          have hir := HX.out.inRow h (by omega)
          obtain ⟨gi, ci, hf, _, _⟩ := World.ownsRow.form hir (by omega)
          rw [hf] at c4 hir
          obtain ⟨hl1, hl2⟩ := lcells_at _ _ _ _ hq2
          have e3 := row_cell hir _ _ hl1
          have e4 := row_cell hir _ _ hl2
          have cL := aL.mr h hh
          rw [hil h] at hq1
          have hiq := hin h
          generalize (s.inn h).length = ln at *
          clear hrow hcr hat hir hl1 hl2 hq2
          obtain ⟨xf, hxa, hxf⟩ := fr_of a hS0.sz hS0.df
          have hq18 := (hxf 18).symm.trans hS0.s18
          have hq20 := (hxf 20).symm.trans hS0.s20
          have hq26 := (hxf 26).symm.trans hS0.s26
          have hq29 := (hxf 29).symm.trans hS0.s29
          have hq33 := (hxf 33).symm.trans hS0.s33
          have hq34 := (hxf 34).symm.trans hS0.s34
          have hq43 := (hxf 43).symm.trans hS0.s43
          have hq44 := (hxf 44).symm.trans hS0.s44
          have hq52 := (hxf 52).symm.trans hS0.s52
          have hq54 := (hxf 54).symm.trans hS0.s54
          have hq55 := (hxf 55).symm.trans hS0.s55
          have hq59 := (hxf 59).symm.trans hS0.s59
          have hq64 := (hxf 64).symm.trans h64
          have hq65 := (hxf 65).symm.trans h65
          have hq556 := (hxf 556).symm.trans h556
          have hq557 := (hxf 557).symm.trans h557
          have hq558 := (hxf 558).symm.trans h558
          subst hxa
          conv => arg 4; simp only [fr, hq18, hq20, hq26, hq29, hq33, hq34, hq43, hq44, hq52, hq54, hq55, hq59, hq64, hq65, hq556, hq557, hq558]
          clear hxf hS0 h64 h65 h556 h557 h558 hq18 hq20 hq26 hq29 hq33 hq34 hq43 hq44 hq52 hq54 hq55 hq59 hq64 hq65 hq556 hq557 hq558
          go_wp2_with fail
          exact ⟨⟨k + 1, by omega, by go_num, rfl, rfl, rfl, rfl, ⟨rfl, rfl, rfl, rfl, rfl, rfl, rfl, rfl, rfl, rfl, rfl, rfl, rfl, rfl⟩, by first | rfl | trivial⟩, by rw [Hmu.out]; show (O i).length - ((k : Int) + 1).toNat < _; omega⟩
      · skip
        obtain ⟨xf, hxa, hxf⟩ := fr_of a hS0.sz hS0.df
        have hq18 := (hxf 18).symm.trans hS0.s18
        have hq20 := (hxf 20).symm.trans hS0.s20
        have hq26 := (hxf 26).symm.trans hS0.s26
        have hq29 := (hxf 29).symm.trans hS0.s29
        have hq33 := (hxf 33).symm.trans hS0.s33
        have hq34 := (hxf 34).symm.trans hS0.s34
        have hq43 := (hxf 43).symm.trans hS0.s43
        have hq44 := (hxf 44).symm.trans hS0.s44
        have hq52 := (hxf 52).symm.trans hS0.s52
        have hq54 := (hxf 54).symm.trans hS0.s54
        have hq55 := (hxf 55).symm.trans hS0.s55
        have hq59 := (hxf 59).symm.trans hS0.s59
        have hq64 := (hxf 64).symm.trans h64
        have hq65 := (hxf 65).symm.trans h65
        have hq556 := (hxf 556).symm.trans h556
        have hq557 := (hxf 557).symm.trans h557
        have hq558 := (hxf 558).symm.trans h558
        subst hxa
        conv => arg 4; simp only [fr, hq18, hq20, hq26, hq29, hq33, hq34, hq43, hq44, hq52, hq54, hq55, hq59, hq64, hq65, hq556, hq557, hq558]
        clear hxf hS0 h64 h65 h556 h557 h558 hq18 hq20 hq26 hq29 hq33 hq34 hq43 hq44 hq52 hq54 hq55 hq59 hq64 hq65 hq556 hq557 hq558
        go_wp2_with fail
        exact ⟨⟨i + 1, by omega, by go_num, ⟨rfl, rfl, rfl, rfl, rfl, rfl, rfl, rfl, rfl, rfl, rfl, rfl, rfl, rfl⟩, by first | rfl | trivial⟩, by rw [Hmo.out]; show FL - ((i : Int) + 1).toNat < _; omega⟩
  · skip
    obtain ⟨xf, hxa, hxf⟩ := fr_of a hS0.sz hS0.df
    have hq18 := (hxf 18).symm.trans hS0.s18
    have hq20 := (hxf 20).symm.trans hS0.s20
    have hq26 := (hxf 26).symm.trans hS0.s26
    have hq29 := (hxf 29).symm.trans hS0.s29
    have hq33 := (hxf 33).symm.trans hS0.s33
    have hq34 := (hxf 34).symm.trans hS0.s34
    have hq43 := (hxf 43).symm.trans hS0.s43
    have hq44 := (hxf 44).symm.trans hS0.s44
    have hq52 := (hxf 52).symm.trans hS0.s52
    have hq54 := (hxf 54).symm.trans hS0.s54
    have hq55 := (hxf 55).symm.trans hS0.s55
    have hq59 := (hxf 59).symm.trans hS0.s59
    have hq64 := (hxf 64).symm.trans hi64
    subst hxa
    conv => arg 4; simp only [fr, hq18, hq20, hq26, hq29, hq33, hq34, hq43, hq44, hq52, hq54, hq55, hq59, hq64]
    clear hxf hS0 hi64 hq18 hq20 hq26 hq29 hq33 hq34 hq43 hq44 hq52 hq54 hq55 hq59 hq64
    go_wp2
    go_ret
    exact ⟨rfl, HB.out⟩
end Go.Proofs.Ybulkekys
