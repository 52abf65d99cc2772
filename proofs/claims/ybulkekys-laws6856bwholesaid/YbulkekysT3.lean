import Derived.Test.YbulkekysSlots
namespace Go.Proofs.Ybulkekys
open Go.RowKit

set_option maxHeartbeats 8000000 in
set_option maxRecDepth 1000000 in
theorem ph27 (Q : Exit → Act → World → Prop) (w : World) (n : Nat) (gO : Nat) (gOc : Nat) (mm : Nat) (gE : Nat) (gEc : Nat) (cEc : Nat) (gB : Nat) (gI : Nat) (gA : Nat) (gL : Nat) (gK : Nat) (gV : Nat) (lv : Nat) (gVc : Nat) (cVc : Nat) (gBc : Nat) (cBc : Nat) (gP : Nat) (P : Nat → Bool) (hn : n ≤ 4097) (hmm : mm ≤ n)
    (aP : Arr w gP 4 n n (mr n fun i => .bool (P i)))
    (a : Act) (hS : S27 a n gO gOc mm gE gEc cEc gB gI gA gL gK gV lv gVc cVc gBc cBc gP)
    (next : ∀ a' w' FL, S28 a' n gO gOc mm gE gEc cEc gB gI gA gL gK gV lv gVc cVc gBc cBc gP FL → Below w.heap.size w w' → mm ≤ FL → FL ≤ n → (∀ p, p < n → P p = true → p < FL) → (FL = mm ∨ ∃ p, P p = true ∧ FL = p + 1) → Code.wp Yba.prog (dropSeq 29 (Yba.f4.body.getD .skip)) Q a' w') :
    Code.wp Yba.prog (dropSeq 27 (Yba.f4.body.getD .skip)) Q a w := by
  have Hn : Hid _ := next
  clear next
  obtain ⟨xf, hxa, hxf⟩ := fr_of a hS.sz hS.df
  have hq18 := (hxf 18).symm.trans hS.s18
  have hq19 := (hxf 19).symm.trans hS.s19
  have hq20 := (hxf 20).symm.trans hS.s20
  have hq26 := (hxf 26).symm.trans hS.s26
  have hq27 := (hxf 27).symm.trans hS.s27
  have hq29 := (hxf 29).symm.trans hS.s29
  have hq30 := (hxf 30).symm.trans hS.s30
  have hq31 := (hxf 31).symm.trans hS.s31
  have hq32 := (hxf 32).symm.trans hS.s32
  have hq33 := (hxf 33).symm.trans hS.s33
  have hq34 := (hxf 34).symm.trans hS.s34
  have hq39 := (hxf 39).symm.trans hS.s39
  have hq42 := (hxf 42).symm.trans hS.s42
  have hq43 := (hxf 43).symm.trans hS.s43
  have hq44 := (hxf 44).symm.trans hS.s44
  subst hxa
  conv => arg 4; simp only [fr, hq18, hq19, hq20, hq26, hq27, hq29, hq30, hq31, hq32, hq33, hq34, hq39, hq42, hq43, hq44]
  clear hxf hS  hq18 hq19 hq20 hq26 hq27 hq29 hq30 hq31 hq32 hq33 hq34 hq39 hq42 hq43 hq44
  conv => arg 2; whnf
  refine wp_seq_k (fun K1 hK1 => ?_)
  have HK1 : Hid _ := hK1
  clear hK1
  go_wp2_with fail
  refine HK1.out _ _ ?_
  clear HK1 K1
  refine wp_seq_k (fun K hK => ?_)
  have HK : Hid _ := hK
  clear hK
  go_wp2_with fail
  refine wp_loop (fun a w' => ∃ p FL : Nat, p ≤ n ∧ mm ≤ FL ∧ FL ≤ n ∧ (∀ x, x < p → P x = true → x < FL) ∧ (FL = mm ∨ ∃ x, P x = true ∧ FL = x + 1) ∧ a.tmps.getD 53 undef = .int .i64 (p : Int) ∧ S28 a n gO gOc mm gE gEc cEc gB gI gA gL gK gV lv gVc cVc gBc cBc gP FL ∧ ∃ q, w' = w.drewN q) (fun a _ => n - (intOf (a.tmps.getD 53 undef)).toNat) ⟨0, mm, Nat.zero_le _, Nat.le_refl _, hmm, (fun x hx => absurd hx (Nat.not_lt_zero _)), .inl rfl, rfl, ⟨rfl, rfl, rfl, rfl, rfl, rfl, rfl, rfl, rfl, rfl, rfl, rfl, rfl, rfl, rfl, rfl, rfl, rfl⟩, 0, rfl⟩ (fun a wr hI => ?_)
  obtain ⟨p, FL, hp, hF1, hF2, hF3, hF4, h53, hS, q, rfl⟩ := hI
  have Hmo : Hid (n - (intOf (a.tmps.getD 53 undef)).toNat = n - p) := by show _ = _; rw [h53]; simp [intOf]
  by_cases hlt : p < n
  · have cP := aP.mr p hlt
    have b1 : (0 : Int) ≤ (p : Int) := Int.natCast_nonneg _
    have b2 : (p : Int) < (n : Int) := by omega
    have b3 : IntKind.i64.wrap ((p : Int) + 1) = (p : Int) + 1 := IntWalk.i64_in _ (by omega)
    cases hP : P p
    · simp only [hP] at cP
      obtain ⟨xf, hxa, hxf⟩ := fr_of a hS.sz hS.df
      have hq18 := (hxf 18).symm.trans hS.s18
      have hq19 := (hxf 19).symm.trans hS.s19
      have hq20 := (hxf 20).symm.trans hS.s20
      have hq26 := (hxf 26).symm.trans hS.s26
      have hq27 := (hxf 27).symm.trans hS.s27
      have hq29 := (hxf 29).symm.trans hS.s29
      have hq30 := (hxf 30).symm.trans hS.s30
      have hq31 := (hxf 31).symm.trans hS.s31
      have hq32 := (hxf 32).symm.trans hS.s32
      have hq33 := (hxf 33).symm.trans hS.s33
      have hq34 := (hxf 34).symm.trans hS.s34
      have hq39 := (hxf 39).symm.trans hS.s39
      have hq42 := (hxf 42).symm.trans hS.s42
      have hq43 := (hxf 43).symm.trans hS.s43
      have hq44 := (hxf 44).symm.trans hS.s44
      have hq52 := (hxf 52).symm.trans hS.s52
      have hq53 := (hxf 53).symm.trans h53
      subst hxa
      conv => arg 4; simp only [fr, hq18, hq19, hq20, hq26, hq27, hq29, hq30, hq31, hq32, hq33, hq34, hq39, hq42, hq43, hq44, hq52, hq53]
      clear hxf hS h53 hq18 hq19 hq20 hq26 hq27 hq29 hq30 hq31 hq32 hq33 hq34 hq39 hq42 hq43 hq44 hq52 hq53
      go_wp2_with fail
      exact ⟨⟨p + 1, FL, by omega, hF1, hF2, fun x hx hx' => (by by_cases e : x = p; (rw [e, hP] at hx'; cases hx'); exact hF3 x (by omega) hx'), hF4, by go_num, ⟨rfl, rfl, rfl, rfl, rfl, rfl, rfl, rfl, rfl, rfl, rfl, rfl, rfl, rfl, rfl, rfl, rfl, rfl⟩, q, rfl⟩, by rw [Hmo.out]; show n - ((p : Int) + 1).toNat < _; omega⟩
    · simp only [hP] at cP
      by_cases hgt : FL < p + 1
      · have b4 : (FL : Int) < (p : Int) + 1 := by omega
        obtain ⟨xf, hxa, hxf⟩ := fr_of a hS.sz hS.df
        have hq18 := (hxf 18).symm.trans hS.s18
        have hq19 := (hxf 19).symm.trans hS.s19
        have hq20 := (hxf 20).symm.trans hS.s20
        have hq26 := (hxf 26).symm.trans hS.s26
        have hq27 := (hxf 27).symm.trans hS.s27
        have hq29 := (hxf 29).symm.trans hS.s29
        have hq30 := (hxf 30).symm.trans hS.s30
        have hq31 := (hxf 31).symm.trans hS.s31
        have hq32 := (hxf 32).symm.trans hS.s32
        have hq33 := (hxf 33).symm.trans hS.s33
        have hq34 := (hxf 34).symm.trans hS.s34
        have hq39 := (hxf 39).symm.trans hS.s39
        have hq42 := (hxf 42).symm.trans hS.s42
        have hq43 := (hxf 43).symm.trans hS.s43
        have hq44 := (hxf 44).symm.trans hS.s44
        have hq52 := (hxf 52).symm.trans hS.s52
        have hq53 := (hxf 53).symm.trans h53
        subst hxa
        conv => arg 4; simp only [fr, hq18, hq19, hq20, hq26, hq27, hq29, hq30, hq31, hq32, hq33, hq34, hq39, hq42, hq43, hq44, hq52, hq53]
        clear hxf hS h53 hq18 hq19 hq20 hq26 hq27 hq29 hq30 hq31 hq32 hq33 hq34 hq39 hq42 hq43 hq44 hq52 hq53
        go_wp2_with fail
        refine ⟨⟨p + 1, p + 1, by omega, by omega, by omega, fun x hx _ => hx, .inr ⟨p, hP, rfl⟩, by go_num, ⟨rfl, rfl, rfl, rfl, rfl, rfl, rfl, rfl, rfl, rfl, rfl, rfl, rfl, rfl, rfl, rfl, rfl, rfl⟩, q, rfl⟩, by rw [Hmo.out]; show n - ((p : Int) + 1).toNat < _; omega⟩
      · have b4 : decide ((FL : Int) < (p : Int) + 1) = false := by simp; omega
        obtain ⟨xf, hxa, hxf⟩ := fr_of a hS.sz hS.df
        have hq18 := (hxf 18).symm.trans hS.s18
        have hq19 := (hxf 19).symm.trans hS.s19
        have hq20 := (hxf 20).symm.trans hS.s20
        have hq26 := (hxf 26).symm.trans hS.s26
        have hq27 := (hxf 27).symm.trans hS.s27
        have hq29 := (hxf 29).symm.trans hS.s29
        have hq30 := (hxf 30).symm.trans hS.s30
        have hq31 := (hxf 31).symm.trans hS.s31
        have hq32 := (hxf 32).symm.trans hS.s32
        have hq33 := (hxf 33).symm.trans hS.s33
        have hq34 := (hxf 34).symm.trans hS.s34
        have hq39 := (hxf 39).symm.trans hS.s39
        have hq42 := (hxf 42).symm.trans hS.s42
        have hq43 := (hxf 43).symm.trans hS.s43
        have hq44 := (hxf 44).symm.trans hS.s44
        have hq52 := (hxf 52).symm.trans hS.s52
        have hq53 := (hxf 53).symm.trans h53
        subst hxa
        conv => arg 4; simp only [fr, hq18, hq19, hq20, hq26, hq27, hq29, hq30, hq31, hq32, hq33, hq34, hq39, hq42, hq43, hq44, hq52, hq53]
        clear hxf hS h53 hq18 hq19 hq20 hq26 hq27 hq29 hq30 hq31 hq32 hq33 hq34 hq39 hq42 hq43 hq44 hq52 hq53
        go_wp2_with fail
        exact ⟨⟨p + 1, FL, by omega, hF1, hF2, fun x hx hx' => (by by_cases e : x = p; omega; exact hF3 x (by omega) hx'), hF4, by go_num, ⟨rfl, rfl, rfl, rfl, rfl, rfl, rfl, rfl, rfl, rfl, rfl, rfl, rfl, rfl, rfl, rfl, rfl, rfl⟩, q, rfl⟩, by rw [Hmo.out]; show n - ((p : Int) + 1).toNat < _; omega⟩
  · obtain rfl : p = n := by omega
    obtain ⟨xf, hxa, hxf⟩ := fr_of a hS.sz hS.df
    have hq18 := (hxf 18).symm.trans hS.s18
    have hq19 := (hxf 19).symm.trans hS.s19
    have hq20 := (hxf 20).symm.trans hS.s20
    have hq26 := (hxf 26).symm.trans hS.s26
    have hq27 := (hxf 27).symm.trans hS.s27
    have hq29 := (hxf 29).symm.trans hS.s29
    have hq30 := (hxf 30).symm.trans hS.s30
    have hq31 := (hxf 31).symm.trans hS.s31
    have hq32 := (hxf 32).symm.trans hS.s32
    have hq33 := (hxf 33).symm.trans hS.s33
    have hq34 := (hxf 34).symm.trans hS.s34
    have hq39 := (hxf 39).symm.trans hS.s39
    have hq42 := (hxf 42).symm.trans hS.s42
    have hq43 := (hxf 43).symm.trans hS.s43
    have hq44 := (hxf 44).symm.trans hS.s44
    have hq52 := (hxf 52).symm.trans hS.s52
    have hq53 := (hxf 53).symm.trans h53
    subst hxa
    conv => arg 4; simp only [fr, hq18, hq19, hq20, hq26, hq27, hq29, hq30, hq31, hq32, hq33, hq34, hq39, hq42, hq43, hq44, hq52, hq53]
    clear hxf hS h53 hq18 hq19 hq20 hq26 hq27 hq29 hq30 hq31 hq32 hq33 hq34 hq39 hq42 hq43 hq44 hq52 hq53
    go_wp2_with fail
    exact HK.out _ _ (Hn.out _ _ FL ⟨rfl, rfl, rfl, rfl, rfl, rfl, rfl, rfl, rfl, rfl, rfl, rfl, rfl, rfl, rfl, rfl, rfl, rfl⟩ (below_drewN (Below.refl _ _) q) hF1 hF2 hF3 hF4)
end Go.Proofs.Ybulkekys
