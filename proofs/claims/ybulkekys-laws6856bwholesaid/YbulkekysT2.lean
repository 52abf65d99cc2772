import Derived.Test.YbulkekysT4
namespace Go.Proofs.Ybulkekys
open Go.RowKit

/-- The queue and the set. -/
structure QI (c : Cx) (Qu : List Nat) (P : Nat → Bool) : Prop where
  mem : ∀ x, P x = true ↔ x ∈ Qu
  lt : ∀ x ∈ Qu, x < c.n
  ip : ∀ x ∈ Qu, IP c x
  cnt : Qu.length + unm P c.n = c.n
theorem unm_none : ∀ n, unm (fun _ => false) n = n
  | 0 => rfl
  | n + 1 => by simp [unm, unm_none n]
theorem QI.start (c : Cx) : QI c [] (fun _ => false) := ⟨fun x => (by simp), fun x hx => (by cases hx), fun x hx => (by cases hx), (by simp [unm_none])⟩
theorem QI.push {c : Cx} {Qu : List Nat} {P : Nat → Bool} (I : QI c Qu P) {h : Nat} (hP : P h = false) (hn : h < c.n) (hi : IP c h) : QI c (Qu ++ [h]) (upd P h true) := by
  refine ⟨fun x => ?_, fun x hx => ?_, fun x hx => ?_, ?_⟩
  · rw [upd_true, I.mem x]; simp [or_comm]
  · rcases List.mem_append.1 hx with h1 | h1
    · exact I.lt x h1
    · have : x = h := by simpa using h1
      rw [this]; exact hn
  · rcases List.mem_append.1 hx with h1 | h1
    · exact I.ip x h1
    · have : x = h := by simpa using h1
      rw [this]; exact hi
  · have h1 := unm_mark P h hP c.n hn
    have h2 := I.cnt
    simp only [List.length_append, List.length_cons, List.length_nil]
    omega
theorem QI.len {c : Cx} {Qu : List Nat} {P : Nat → Bool} (I : QI c Qu P) : Qu.length ≤ c.n := by have := I.cnt; omega
theorem getD_app (l : List Nat) (x j : Nat) (hj : j < l.length) : (l ++ [x]).getD j 0 = l.getD j 0 := by
  simp [List.getD, List.getElem?_append_left hj]
theorem QI.final {c : Cx} {Qu : List Nat} {P : Nat → Bool} (I : QI c Qu P) (hv : ∀ v ∈ c.vs, P v = true) (hd : ∀ j, j < Qu.length → ∀ h ∈ c.O (Qu.getD j 0), c.s0.bg h = false → P h = true) : ∀ x, P x = true ↔ IP c x := fun x =>
  ⟨fun h => I.ip x ((I.mem x).1 h), fun h => h (fun y => P y = true) hv (fun p h hp ho hb => by
    obtain ⟨j, hj, e⟩ := List.mem_iff_getElem.1 ((I.mem p).1 hp)
    refine hd j hj h ?_ hb
    rw [List.getD_eq_getElem?_getD, List.getElem?_eq_getElem hj, Option.getD_some, e]
    exact ho)⟩
theorem take_mem (l : List Nat) (k : Nat) (hk : k < l.length) {x : Nat} (h : x ∈ l.take (k + 1)) : x ∈ l.take k ∨ x = l.getD k 0 := by
  rw [take_getD l k hk] at h
  rcases List.mem_append.1 h with h | h
  · exact .inl h
  · exact .inr (by simpa using h)
theorem fBool (P : Nat → Bool) (h : Nat) : upd (fun i => Value.bool (P i)) h (.bool true) = fun i => Value.bool (upd P h true i) := by
  funext i
  by_cases e : i = h
  · subst e; simp [upd_same]
  · simp [upd_other _ _ _ _ e]

set_option maxHeartbeats 8000000 in
set_option maxRecDepth 1000000 in
theorem ph23 (Q : Exit → Act → World → Prop) (w : World) (n : Nat) (gO : Nat) (gOc : Nat) (mm : Nat) (gE : Nat) (gEc : Nat) (cEc : Nat) (gB : Nat) (gI : Nat) (gA : Nat) (gL : Nat) (gK : Nat) (gV : Nat) (lv : Nat) (gVc : Nat) (cVc : Nat) (gBc : Nat) (cBc : Nat) (hn : n ≤ 4097)
    (a : Act) (hS : S23 a n gO gOc mm gE gEc cEc gB gI gA gL gK gV lv gVc cVc gBc cBc)
    (next : ∀ a' w' gP gQ, S25 a' n gO gOc mm gE gEc cEc gB gI gA gL gK gV lv gVc cVc gBc cBc gP gQ 0 n → Below w.heap.size w w' → w.heap.size ≤ gP → w.heap.size ≤ gQ → Arr w' gP 4 n n (mr n fun _ => .bool false) → Arr w' gQ 3 0 n [] → Code.wp Yba.prog (dropSeq 25 (Yba.f4.body.getD .skip)) Q a' w') :
    Code.wp Yba.prog (dropSeq 23 (Yba.f4.body.getD .skip)) Q a w := by
  obtain ⟨i3, hi3, hz30, hz31, hz32⟩ := info_parts I.infoE
  obtain ⟨i4, hi4, hz40, hz41, hz42⟩ := info_parts info4
  have Hn : Hid _ := next
  clear next
  obtain ⟨xf, hxa, hxf⟩ := fr_of a hS.sz hS.df
  have hq18 := (hxf 18).symm.trans hS.s18
  have hq19 := (hxf 19).symm.trans hS.s19
  have hq20 := (hxf 20).symm.trans hS.s20
  have hq26 := (hxf 26).symm.trans hS.s26
  have hq27 := (hxf 27).symm.trans hS.s27
  have hq29 := (hxf 29).symm.trans hS.s29
  have hq30 := (hxf 30).symm.trans hS.s30
  have hq31 := (hxf 31).symm.trans hS.s31
  have hq32 := (hxf 32).symm.trans hS.s32
  have hq33 := (hxf 33).symm.trans hS.s33
  have hq34 := (hxf 34).symm.trans hS.s34
  have hq39 := (hxf 39).symm.trans hS.s39
  have hq42 := (hxf 42).symm.trans hS.s42
  have hq43 := (hxf 43).symm.trans hS.s43
  subst hxa
  conv => arg 4; simp only [fr, hq18, hq19, hq20, hq26, hq27, hq29, hq30, hq31, hq32, hq33, hq34, hq39, hq42, hq43]
  clear hxf hS  hq18 hq19 hq20 hq26 hq27 hq29 hq30 hq31 hq32 hq33 hq34 hq39 hq42 hq43
  conv => arg 2; whnf
  refine wp_seq_k (fun K1 hK1 => ?_)
  have HK1 : Hid _ := hK1
  clear hK1
  go_wp2_with (at_make; refine wpList_make_arr rfl _ _ 24 rfl 4 i4 (.bool false) 1 Yba.underlying24 hi4 hz40 hz41 hz42 rfl _ _ _ _ n rfl rfl ?m0 ?m1 ?m2 ?m3 ?_)
  case m0 => first | rfl | omega
  case m1 => first | rfl | omega
  case m2 => omega
  case m3 => unfold maxLen; omega
  intro w1 hA1 hg1
  have hb1 : Below w.heap.size w w1 := (Below.refl _ _).grown hg1 (Nat.le_refl _) (fun k hk => by cases hk)
  have hlt1 := hA1.lt
  rw [mr_const] at hA1
  clear hg1
  go_wp2_with fail
  refine HK1.out _ _ ?_
  clear HK1 K1
  refine wp_seq_k (fun K2 hK2 => ?_)
  have HK2 : Hid _ := hK2
  clear hK2
  go_wp2_with (at_make; refine wpList_make_own _ rfl _ _ 33 rfl 0 3 i3 (.int .i64 0) 1 Yba.underlying33 hi3 hz30 hz31 _ _ _ n rfl rfl ?m1 ?m2 ?m3 (Nat.zero_le _) ?_)
  case m1 => first | rfl | omega
  case m2 => rw [hz32]; omega
  case m3 => unfold maxLen; omega
  intro w2 hA2 hg2
  have hb2 : Below w1.heap.size w1 w2 := (Below.refl _ _).grown hg2 (Nat.le_refl _) (fun k hk => by cases hk)
  clear hg2
  go_wp2_with fail
  refine HK2.out _ _ ?_
  clear HK2 K2
  exact Hn.out _ _ w.heap.size w1.heap.size ⟨rfl, rfl, rfl, rfl, rfl, rfl, rfl, rfl, rfl, rfl, rfl, rfl, rfl, rfl, rfl, rfl, rfl, rfl⟩ (hb1.trans (hb2.mono (Nat.le_of_lt hlt1))) (Nat.le_refl _) (Nat.le_of_lt hlt1) (hA1.below hb2 hlt1) hA2

set_option maxHeartbeats 8000000 in
set_option maxRecDepth 1000000 in
theorem ph25 (Q : Exit → Act → World → Prop) (c : Cx) (B1 : Nat) (w : World) (n gO gOc mm gE gEc cEc gB gI gA gL gK gV lv gVc cVc gBc cBc gP gQ0 cq0 : Nat) (hn : n ≤ 4097) (hcn : c.n = n) (hcv : c.vs.length = lv) (hlv : lv ≤ 16384) (hvn : ∀ v ∈ c.vs, v < n)
    (aV : Arr w gV 3 lv lv (nv .i64 c.vs)) (hb1 : gV < B1) (hb2 : B1 ≤ gP) (hb3 : B1 ≤ gQ0)
    (aP : Arr w gP 4 n n (mr n fun _ => .bool false)) (aQ : Arr w gQ0 3 0 cq0 [])
    (a : Act) (hS : S25 a n gO gOc mm gE gEc cEc gB gI gA gL gK gV lv gVc cVc gBc cBc gP gQ0 0 cq0)
    (next : ∀ a' w' gQ lq cq Qu P, S25 a' n gO gOc mm gE gEc cEc gB gI gA gL gK gV lv gVc cVc gBc cBc gP gQ lq cq → Below B1 w w' → B1 ≤ gQ → lq = Qu.length → QI c Qu P → (∀ v ∈ c.vs, P v = true) → Arr w' gP 4 n n (mr n fun i => .bool (P i)) → Arr w' gQ 3 lq cq (nv .i64 Qu) → Code.wp Yba.prog (dropSeq 26 (Yba.f4.body.getD .skip)) Q a' w') :
    Code.wp Yba.prog (dropSeq 25 (Yba.f4.body.getD .skip)) Q a w := by
  obtain ⟨i3, hi3, hz30, hz31, hz32⟩ := info_parts I.infoE
  have Hn : Hid _ := next
  clear next
  obtain ⟨xf, hxa, hxf⟩ := fr_of a hS.sz hS.df
  have hq18 := (hxf 18).symm.trans hS.s18
  have hq19 := (hxf 19).symm.trans hS.s19
  have hq20 := (hxf 20).symm.trans hS.s20
  have hq26 := (hxf 26).symm.trans hS.s26
  have hq27 := (hxf 27).symm.trans hS.s27
  have hq29 := (hxf 29).symm.trans hS.s29
  have hq30 := (hxf 30).symm.trans hS.s30
  have hq31 := (hxf 31).symm.trans hS.s31
  have hq32 := (hxf 32).symm.trans hS.s32
  have hq33 := (hxf 33).symm.trans hS.s33
  have hq34 := (hxf 34).symm.trans hS.s34
  have hq39 := (hxf 39).symm.trans hS.s39
  have hq42 := (hxf 42).symm.trans hS.s42
  have hq43 := (hxf 43).symm.trans hS.s43
  have hq44 := (hxf 44).symm.trans hS.s44
  have hq45 := (hxf 45).symm.trans hS.s45
  subst hxa
  conv => arg 4; simp only [fr, hq18, hq19, hq20, hq26, hq27, hq29, hq30, hq31, hq32, hq33, hq34, hq39, hq42, hq43, hq44, hq45]
  clear hxf hS  hq18 hq19 hq20 hq26 hq27 hq29 hq30 hq31 hq32 hq33 hq34 hq39 hq42 hq43 hq44 hq45
  conv => arg 2; whnf
  refine wp_seq_k (fun K hK => ?_)
  have HK : Hid _ := hK
  clear hK
  go_wp2_with fail
  refine wp_loop (fun a w' => ∃ j gQ lq cq Qu P, j ≤ lv ∧ a.tmps.getD 265 undef = .int .i64 (j : Int) ∧ a.tmps.getD 263 undef = .slice (some ⟨gV, 0, none⟩) lv lv ∧ a.tmps.getD 264 undef = .int .i64 (lv : Int) ∧ S25 a n gO gOc mm gE gEc cEc gB gI gA gL gK gV lv gVc cVc gBc cBc gP gQ lq cq ∧ Below B1 w w' ∧ B1 ≤ gQ ∧ lq = Qu.length ∧ QI c Qu P ∧ (∀ v ∈ c.vs.take j, P v = true) ∧ Arr w' gP 4 n n (mr n fun i => .bool (P i)) ∧ Arr w' gQ 3 lq cq (nv .i64 Qu)) (fun a _ => lv - (intOf (a.tmps.getD 265 undef)).toNat) ⟨0, gQ0, 0, cq0, [], (fun _ => false), Nat.zero_le _, rfl, rfl, rfl, ⟨rfl, rfl, rfl, rfl, rfl, rfl, rfl, rfl, rfl, rfl, rfl, rfl, rfl, rfl, rfl, rfl, rfl, rfl⟩, Below.refl _ _, hb3, rfl, QI.start c, (fun v hv => by simp at hv), aP, aQ⟩ (fun a wr hI => ?_)
  clear aP aQ
  obtain ⟨j, gQ, lq, cq, Qu, P, hj, h265, h263, h264, hS, hB, hbq, hlq, hI, hvs, hP, hQ⟩ := hI
  have Hmo : Hid (lv - (intOf (a.tmps.getD 265 undef)).toNat = lv - j) := by show _ = _; rw [h265]; simp [intOf]
  by_cases hlt : j < lv
  · have hjl : j < c.vs.length := by omega
    have cV := (aV.below hB hb1).nat j hlt
    have htm := fun x => take_mem c.vs j hjl (x := x)
    have hxm : c.vs.getD j 0 ∈ c.vs := getD_mem hjl
    generalize c.vs.getD j 0 = x at *
    have hxn := hvn x hxm
    have cP := hP.mr x hxn
    have fP := hP.fr x
    cases hPx : P x
    · simp only [hPx] at cP
      have hP2 := hP.setMr x (.bool true)
      rw [fBool] at hP2
      have hQ2 := hQ.other gP x (.bool true) (ty_ne hQ.ty hP.ty (by decide))
      have hB2 := below_set hB gP x (.bool true) hb2
      have hI2 := hI.push hPx (by omega) (IP.of_vs hxm)
      have hvs2 : ∀ v ∈ c.vs.take (j + 1), upd P x true v = true := fun v hv => by
        rcases htm v hv with h | h
        · exact upd_true.2 (.inr (hvs v h))
        · exact upd_true.2 (.inl h)
      have hql : lq ≤ n := by have := hI.len; omega
      have Hlq : Hid (lq = Qu.length) := hlq
      clear hP hQ hB hI hvs htm hlq
      obtain ⟨xf, hxa, hxf⟩ := fr_of a hS.sz hS.df
      have hq18 := (hxf 18).symm.trans hS.s18
      have hq19 := (hxf 19).symm.trans hS.s19
      have hq20 := (hxf 20).symm.trans hS.s20
      have hq26 := (hxf 26).symm.trans hS.s26
      have hq27 := (hxf 27).symm.trans hS.s27
      have hq29 := (hxf 29).symm.trans hS.s29
      have hq30 := (hxf 30).symm.trans hS.s30
      have hq31 := (hxf 31).symm.trans hS.s31
      have hq32 := (hxf 32).symm.trans hS.s32
      have hq33 := (hxf 33).symm.trans hS.s33
      have hq34 := (hxf 34).symm.trans hS.s34
      have hq39 := (hxf 39).symm.trans hS.s39
      have hq42 := (hxf 42).symm.trans hS.s42
      have hq43 := (hxf 43).symm.trans hS.s43
      have hq44 := (hxf 44).symm.trans hS.s44
      have hq45 := (hxf 45).symm.trans hS.s45
      have hq263 := (hxf 263).symm.trans h263
      have hq264 := (hxf 264).symm.trans h264
      have hq265 := (hxf 265).symm.trans h265
      subst hxa
      conv => arg 4; simp only [fr, hq18, hq19, hq20, hq26, hq27, hq29, hq30, hq31, hq32, hq33, hq34, hq39, hq42, hq43, hq44, hq45, hq263, hq264, hq265]
      clear hxf hS h263 h264 h265 hq18 hq19 hq20 hq26 hq27 hq29 hq30 hq31 hq32 hq33 hq34 hq39 hq42 hq43 hq44 hq45 hq263 hq264 hq265
      go_upto_region 71 with (fail)
      generalize wr.setCell ⟨gP, x, none⟩ (.bool true) = wd at *
      go_wp2_with (at_builtin; refine wpList_append_arr rfl (.tmp 277) (.tmp 279) 33 rfl 3 i3 (.int .i64 0) 8 Yba.underlying33 hi3 hz30 hz31 hz32 rfl gQ lq cq _ rfl hQ2 rfl rfl ?c1 ?c2 ?_)
      case c1 => unfold maxLen; omega
      case c2 => omega
      intro g' c' w2 hQ3 hg2 hn2
      rw [nv_app] at hQ3
      have hP3 := hP2.grown hg2 (fun e => ty_ne hP2.ty hQ2.ty (by decide) (Option.some.inj e))
      have hB3 : Below B1 w w2 := hB2.grown hg2 (by have := hB2.size; have := hQ2.lt; omega) (fun k hk => by cases hk; exact hbq)
      have hbq2 : B1 ≤ g' := by have := hQ2.lt; rcases hn2 with h | h <;> omega
      clear hP2 hQ2 hB2 hg2 hn2
      go_wp2_with fail
      exact ⟨⟨j + 1, g', lq + 1, c', Qu ++ [x], upd P x true, by omega, by go_num, rfl, rfl, ⟨rfl, rfl, rfl, rfl, rfl, rfl, rfl, rfl, rfl, rfl, rfl, rfl, rfl, rfl, rfl, rfl, rfl, rfl⟩, hB3, hbq2, by simp [Hlq.out], hI2, hvs2, hP3, hQ3⟩, by rw [Hmo.out]; show lv - ((j : Int) + 1).toNat < _; omega⟩
    · simp only [hPx] at cP
      have hvs2 : ∀ v ∈ c.vs.take (j + 1), P v = true := fun v hv => by
        rcases htm v hv with h | h
        · exact hvs v h
        · rw [h]; exact hPx
      have Hlq : Hid (lq = Qu.length) := hlq
      clear hlq
      obtain ⟨xf, hxa, hxf⟩ := fr_of a hS.sz hS.df
      have hq18 := (hxf 18).symm.trans hS.s18
      have hq19 := (hxf 19).symm.trans hS.s19
      have hq20 := (hxf 20).symm.trans hS.s20
      have hq26 := (hxf 26).symm.trans hS.s26
      have hq27 := (hxf 27).symm.trans hS.s27
      have hq29 := (hxf 29).symm.trans hS.s29
      have hq30 := (hxf 30).symm.trans hS.s30
      have hq31 := (hxf 31).symm.trans hS.s31
      have hq32 := (hxf 32).symm.trans hS.s32
      have hq33 := (hxf 33).symm.trans hS.s33
      have hq34 := (hxf 34).symm.trans hS.s34
      have hq39 := (hxf 39).symm.trans hS.s39
      have hq42 := (hxf 42).symm.trans hS.s42
      have hq43 := (hxf 43).symm.trans hS.s43
      have hq44 := (hxf 44).symm.trans hS.s44
      have hq45 := (hxf 45).symm.trans hS.s45
      have hq263 := (hxf 263).symm.trans h263
      have hq264 := (hxf 264).symm.trans h264
      have hq265 := (hxf 265).symm.trans h265
      subst hxa
      conv => arg 4; simp only [fr, hq18, hq19, hq20, hq26, hq27, hq29, hq30, hq31, hq32, hq33, hq34, hq39, hq42, hq43, hq44, hq45, hq263, hq264, hq265]
      clear hxf hS h263 h264 h265 hq18 hq19 hq20 hq26 hq27 hq29 hq30 hq31 hq32 hq33 hq34 hq39 hq42 hq43 hq44 hq45 hq263 hq264 hq265
      go_wp2_with fail
      exact ⟨⟨j + 1, gQ, lq, cq, Qu, P, by omega, by go_num, rfl, rfl, ⟨rfl, rfl, rfl, rfl, rfl, rfl, rfl, rfl, rfl, rfl, rfl, rfl, rfl, rfl, rfl, rfl, rfl, rfl⟩, hB, hbq, Hlq.out, hI, hvs2, hP, hQ⟩, by rw [Hmo.out]; show lv - ((j : Int) + 1).toNat < _; omega⟩
  · have hvs2 : ∀ v ∈ c.vs, P v = true := fun v hv => hvs v (by rw [List.take_of_length_le (by omega)]; exact hv)
    have Hlq : Hid (lq = Qu.length) := hlq
    clear hlq
    obtain ⟨xf, hxa, hxf⟩ := fr_of a hS.sz hS.df
    have hq18 := (hxf 18).symm.trans hS.s18
    have hq19 := (hxf 19).symm.trans hS.s19
    have hq20 := (hxf 20).symm.trans hS.s20
    have hq26 := (hxf 26).symm.trans hS.s26
    have hq27 := (hxf 27).symm.trans hS.s27
    have hq29 := (hxf 29).symm.trans hS.s29
    have hq30 := (hxf 30).symm.trans hS.s30
    have hq31 := (hxf 31).symm.trans hS.s31
    have hq32 := (hxf 32).symm.trans hS.s32
    have hq33 := (hxf 33).symm.trans hS.s33
    have hq34 := (hxf 34).symm.trans hS.s34
    have hq39 := (hxf 39).symm.trans hS.s39
    have hq42 := (hxf 42).symm.trans hS.s42
    have hq43 := (hxf 43).symm.trans hS.s43
    have hq44 := (hxf 44).symm.trans hS.s44
    have hq45 := (hxf 45).symm.trans hS.s45
    have hq263 := (hxf 263).symm.trans h263
    have hq264 := (hxf 264).symm.trans h264
    have hq265 := (hxf 265).symm.trans h265
    subst hxa
    conv => arg 4; simp only [fr, hq18, hq19, hq20, hq26, hq27, hq29, hq30, hq31, hq32, hq33, hq34, hq39, hq42, hq43, hq44, hq45, hq263, hq264, hq265]
    clear hxf hS h263 h264 h265 hq18 hq19 hq20 hq26 hq27 hq29 hq30 hq31 hq32 hq33 hq34 hq39 hq42 hq43 hq44 hq45 hq263 hq264 hq265
    go_wp2_with fail
    exact HK.out _ _ (Hn.out _ _ gQ lq cq Qu P ⟨rfl, rfl, rfl, rfl, rfl, rfl, rfl, rfl, rfl, rfl, rfl, rfl, rfl, rfl, rfl, rfl, rfl, rfl⟩ hB hbq Hlq.out hI hvs2 hP hQ)

set_option maxHeartbeats 8000000 in
set_option maxRecDepth 1000000 in
theorem ph26 (Q : Exit → Act → World → Prop) (c : Cx) (B1 : Nat) (w : World) (n gO gOc mm gE gEc cEc gB gI gA gL gK gV lv gVc cVc gBc cBc gP gQ0 lq0 cq0 : Nat) (Qu0 : List Nat) (P0 : Nat → Bool) (R : Nat → Value) (hn : n ≤ 4097) (hcn : c.n = n)
    (hO : ∀ p, p < n → ∀ h ∈ c.O p, h < n) (hOl : ∀ p, p < n → (c.O p).length ≤ 65536)
    (aO : Arr w gO 33 n n (mr n R)) (hR : ∀ i, i < n → w.ownsRow 0 3 1 (R i) (c.O i).length (nv .i64 (c.O i)))
    (aBc : Arr w gBc 4 mm cBc (mr mm fun i => .bool (c.s0.bg i))) (hbo : ∀ i, mm ≤ i → c.s0.bg i = false)
    (hb0 : gO < B1) (hb1 : gBc < B1) (hb5 : ∀ i g, i < n → (R i).ownBlock = some g → g < B1) (hb2 : B1 ≤ gP) (hb3 : B1 ≤ gQ0)
    (hlq0 : lq0 = Qu0.length) (hI0 : QI c Qu0 P0) (hv0 : ∀ v ∈ c.vs, P0 v = true)
    (aP : Arr w gP 4 n n (mr n fun i => .bool (P0 i))) (aQ : Arr w gQ0 3 lq0 cq0 (nv .i64 Qu0))
    (a : Act) (hS : S25 a n gO gOc mm gE gEc cEc gB gI gA gL gK gV lv gVc cVc gBc cBc gP gQ0 lq0 cq0)
    (next : ∀ a' w' (P : Nat → Bool), S27 a' n gO gOc mm gE gEc cEc gB gI gA gL gK gV lv gVc cVc gBc cBc gP → Below B1 w w' → (∀ x, P x = true ↔ IP c x) → Arr w' gP 4 n n (mr n fun i => .bool (P i)) → Code.wp Yba.prog (dropSeq 27 (Yba.f4.body.getD .skip)) Q a' w') :
    Code.wp Yba.prog (dropSeq 26 (Yba.f4.body.getD .skip)) Q a w := by
  obtain ⟨i3, hi3, hz30, hz31, hz32⟩ := info_parts I.infoE
  have Hn : Hid _ := next
  have HR : Hid _ := hR
  have Hlq0 : Hid (lq0 = Qu0.length) := hlq0
  clear next hR hlq0
  obtain ⟨xf, hxa, hxf⟩ := fr_of a hS.sz hS.df
  have hq18 := (hxf 18).symm.trans hS.s18
  have hq19 := (hxf 19).symm.trans hS.s19
  have hq20 := (hxf 20).symm.trans hS.s20
  have hq26 := (hxf 26).symm.trans hS.s26
  have hq27 := (hxf 27).symm.trans hS.s27
  have hq29 := (hxf 29).symm.trans hS.s29
  have hq30 := (hxf 30).symm.trans hS.s30
  have hq31 := (hxf 31).symm.trans hS.s31
  have hq32 := (hxf 32).symm.trans hS.s32
  have hq33 := (hxf 33).symm.trans hS.s33
  have hq34 := (hxf 34).symm.trans hS.s34
  have hq39 := (hxf 39).symm.trans hS.s39
  have hq42 := (hxf 42).symm.trans hS.s42
  have hq43 := (hxf 43).symm.trans hS.s43
  have hq44 := (hxf 44).symm.trans hS.s44
  have hq45 := (hxf 45).symm.trans hS.s45
  subst hxa
  conv => arg 4; simp only [fr, hq18, hq19, hq20, hq26, hq27, hq29, hq30, hq31, hq32, hq33, hq34, hq39, hq42, hq43, hq44, hq45]
  clear hxf hS  hq18 hq19 hq20 hq26 hq27 hq29 hq30 hq31 hq32 hq33 hq34 hq39 hq42 hq43 hq44 hq45
  conv => arg 2; whnf
  refine wp_seq_k (fun K hK => ?_)
  have HK : Hid _ := hK
  clear hK
  go_wp2_with fail
  refine wp_loop (fun a w' => ∃ (q gQ lq cq : Nat) (Qu : List Nat) (P : Nat → Bool), q ≤ lq ∧ a.tmps.getD 48 undef = .int .i64 (q : Int) ∧ S25 a n gO gOc mm gE gEc cEc gB gI gA gL gK gV lv gVc cVc gBc cBc gP gQ lq cq ∧ Below B1 w w' ∧ B1 ≤ gQ ∧ lq = Qu.length ∧ QI c Qu P ∧ (∀ v ∈ c.vs, P v = true) ∧ (∀ j, j < q → ∀ h ∈ c.O (Qu.getD j 0), c.s0.bg h = false → P h = true) ∧ Arr w' gP 4 n n (mr n fun i => .bool (P i)) ∧ Arr w' gQ 3 lq cq (nv .i64 Qu)) (fun a _ => n + 1 - (intOf (a.tmps.getD 48 undef)).toNat) ⟨0, gQ0, lq0, cq0, Qu0, P0, Nat.zero_le _, rfl, ⟨rfl, rfl, rfl, rfl, rfl, rfl, rfl, rfl, rfl, rfl, rfl, rfl, rfl, rfl, rfl, rfl, rfl, rfl⟩, Below.refl _ _, hb3, Hlq0.out, hI0, hv0, (fun j hj => absurd hj (Nat.not_lt_zero _)), aP, aQ⟩ (fun a wr hI => ?_)
  clear aP aQ hI0 hv0 Hlq0 hb3
  obtain ⟨q, gQ, lq, cq, Qu, P, hq, h48, hS, hB, hbq, hlq, hI, hvs, hd, hP, hQ⟩ := hI
  have Hmo : Hid (n + 1 - (intOf (a.tmps.getD 48 undef)).toNat = n + 1 - q) := by show _ = _; rw [h48]; simp [intOf]
  have hqn : lq ≤ n := by have := hI.len; omega
  by_cases hlt : q < lq
  · have cQ := hQ.nat q hlt
    have hpm : Qu.getD q 0 ∈ Qu := getD_mem (by omega)
    have hpn : Qu.getD q 0 < n := by have := hI.lt _ hpm; omega
    have hip := hI.ip _ hpm
    obtain ⟨p, hpe⟩ : ∃ p, p = Qu.getD q 0 := ⟨_, rfl⟩
    rw [← hpe] at cQ hpm hpn hip
    have Hpe : Hid (p = Qu.getD q 0) := hpe
    have Hlq : Hid (lq = Qu.length) := hlq
    clear hpe hpm hlq
    have cO := (aO.below hB hb0).mr p hpn
    have hrow := row_blk (HR.out p hpn) (fun g hg => hB.block g (hb5 p g hpn hg))
    obtain ⟨ra, rp, hform⟩ := row_form hrow
    rw [hform] at cO
    have hol := hOl p hpn
    clear hrow
    obtain ⟨xf, hxa, hxf⟩ := fr_of a hS.sz hS.df
    have hq18 := (hxf 18).symm.trans hS.s18
    have hq19 := (hxf 19).symm.trans hS.s19
    have hq20 := (hxf 20).symm.trans hS.s20
    have hq26 := (hxf 26).symm.trans hS.s26
    have hq27 := (hxf 27).symm.trans hS.s27
    have hq29 := (hxf 29).symm.trans hS.s29
    have hq30 := (hxf 30).symm.trans hS.s30
    have hq31 := (hxf 31).symm.trans hS.s31
    have hq32 := (hxf 32).symm.trans hS.s32
    have hq33 := (hxf 33).symm.trans hS.s33
    have hq34 := (hxf 34).symm.trans hS.s34
    have hq39 := (hxf 39).symm.trans hS.s39
    have hq42 := (hxf 42).symm.trans hS.s42
    have hq43 := (hxf 43).symm.trans hS.s43
    have hq44 := (hxf 44).symm.trans hS.s44
    have hq45 := (hxf 45).symm.trans hS.s45
    have hq48 := (hxf 48).symm.trans h48
    subst hxa
    conv => arg 4; simp only [fr, hq18, hq19, hq20, hq26, hq27, hq29, hq30, hq31, hq32, hq33, hq34, hq39, hq42, hq43, hq44, hq45, hq48]
    clear hxf hS h48 hq18 hq19 hq20 hq26 hq27 hq29 hq30 hq31 hq32 hq33 hq34 hq39 hq42 hq43 hq44 hq45 hq48
    go_wp2_with fail
    refine wp_loop (fun a w' => ∃ (k gQ lq cq : Nat) (Qu : List Nat) (P : Nat → Bool), k ≤ (c.O p).length ∧ q < lq ∧ a.tmps.getD 297 undef = .int .i64 (k : Int) ∧ a.tmps.getD 48 undef = .int .i64 (q : Int) ∧ a.tmps.getD 295 undef = .slice ra (c.O p).length rp ∧ a.tmps.getD 296 undef = .int .i64 ((c.O p).length : Int) ∧ S25 a n gO gOc mm gE gEc cEc gB gI gA gL gK gV lv gVc cVc gBc cBc gP gQ lq cq ∧ Below B1 w w' ∧ B1 ≤ gQ ∧ lq = Qu.length ∧ p = Qu.getD q 0 ∧ QI c Qu P ∧ (∀ v ∈ c.vs, P v = true) ∧ (∀ j, j < q → ∀ h ∈ c.O (Qu.getD j 0), c.s0.bg h = false → P h = true) ∧ (∀ h ∈ (c.O p).take k, c.s0.bg h = false → P h = true) ∧ Arr w' gP 4 n n (mr n fun i => .bool (P i)) ∧ Arr w' gQ 3 lq cq (nv .i64 Qu)) (fun a _ => (c.O p).length - (intOf (a.tmps.getD 297 undef)).toNat) ⟨0, gQ, lq, cq, Qu, P, Nat.zero_le _, hlt, rfl, rfl, rfl, rfl, ⟨rfl, rfl, rfl, rfl, rfl, rfl, rfl, rfl, rfl, rfl, rfl, rfl, rfl, rfl, rfl, rfl, rfl, rfl⟩, hB, hbq, Hlq.out, Hpe.out, hI, hvs, hd, (fun h hh => by simp at hh), hP, hQ⟩ (fun a wx hJ => ?_)
    clear hlt hB hbq Hlq Hpe hd hP hQ cQ hvs hq hqn cO hI
    clear lq Qu P gQ cq
    obtain ⟨k, gQ, lq, cq, Qu, P, hk, hql, h297, h48, h295, h296, hS, hB, hbq, hlq, hpe, hI, hvs, hd, hdk, hP, hQ⟩ := hJ
    have Hpe : Hid (p = Qu.getD q 0) := hpe
    have Hlq : Hid (lq = Qu.length) := hlq
    have hqn : lq ≤ n := by have := hI.len; omega
    clear hpe hlq
    have Hmu : Hid ((c.O p).length - (intOf (a.tmps.getD 297 undef)).toNat = (c.O p).length - k) := by show _ = _; rw [h297]; simp [intOf]
    by_cases hkl : k < (c.O p).length
    · have hrow := row_blk (HR.out p hpn) (fun g hg => hB.block g (hb5 p g hpn hg))
      obtain ⟨gr, cr, hf, cH⟩ := getD_cell hrow hkl
      rw [hform] at hf
      simp only [Value.slice.injEq, true_and] at hf
      obtain ⟨rfl, rfl⟩ := hf
      have htm := fun x => take_mem (c.O p) k hkl (x := x)
      have hxm : (c.O p).getD k 0 ∈ c.O p := getD_mem hkl
      generalize (c.O p).getD k 0 = x at *
      have hxn := hO p hpn x hxm
      have cP := hP.mr x hxn
      have fP := hP.fr x
      clear hrow
      have cases5 : (x < mm ∧ c.s0.bg x = true) ∨ (x < mm ∧ c.s0.bg x = false ∧ P x = true) ∨ (x < mm ∧ c.s0.bg x = false ∧ P x = false) ∨ (mm ≤ x ∧ P x = true) ∨ (mm ≤ x ∧ P x = false) := by
        by_cases h : x < mm
        · cases c.s0.bg x <;> cases P x <;> simp [h]
        · have h' : mm ≤ x := by omega
          cases P x <;> simp [h, h']
      rcases cases5 with ⟨hxm', hbx⟩ | ⟨hxm', hbx, hPx⟩ | ⟨hxm', hbx, hPx⟩ | ⟨hxm', hPx⟩ | ⟨hxm', hPx⟩
      · have cB := (aBc.below hB hb1).mr x hxm'
        simp only [hbx] at cB
        have b4 : (x : Int) < (mm : Int) := by omega
        have hdk2 : ∀ h ∈ (c.O p).take (k + 1), c.s0.bg h = false → P h = true := fun h hh hb => by
          rcases htm h hh with h1 | h1
          · exact hdk h h1 hb
          · rw [h1] at hb ⊢; first | exact hPx | (rw [hbx] at hb; cases hb)
        obtain ⟨xf, hxa, hxf⟩ := fr_of a hS.sz hS.df
        have hq18 := (hxf 18).symm.trans hS.s18
        have hq19 := (hxf 19).symm.trans hS.s19
        have hq20 := (hxf 20).symm.trans hS.s20
        have hq26 := (hxf 26).symm.trans hS.s26
        have hq27 := (hxf 27).symm.trans hS.s27
        have hq29 := (hxf 29).symm.trans hS.s29
        have hq30 := (hxf 30).symm.trans hS.s30
        have hq31 := (hxf 31).symm.trans hS.s31
        have hq32 := (hxf 32).symm.trans hS.s32
        have hq33 := (hxf 33).symm.trans hS.s33
        have hq34 := (hxf 34).symm.trans hS.s34
        have hq39 := (hxf 39).symm.trans hS.s39
        have hq42 := (hxf 42).symm.trans hS.s42
        have hq43 := (hxf 43).symm.trans hS.s43
        have hq44 := (hxf 44).symm.trans hS.s44
        have hq45 := (hxf 45).symm.trans hS.s45
        have hq48 := (hxf 48).symm.trans h48
        have hq295 := (hxf 295).symm.trans h295
        have hq296 := (hxf 296).symm.trans h296
        have hq297 := (hxf 297).symm.trans h297
        subst hxa
        conv => arg 4; simp only [fr, hq18, hq19, hq20, hq26, hq27, hq29, hq30, hq31, hq32, hq33, hq34, hq39, hq42, hq43, hq44, hq45, hq48, hq295, hq296, hq297]
        clear hxf hS h48 h295 h296 h297 hq18 hq19 hq20 hq26 hq27 hq29 hq30 hq31 hq32 hq33 hq34 hq39 hq42 hq43 hq44 hq45 hq48 hq295 hq296 hq297
        go_wp2_with fail
        exact ⟨⟨k + 1, gQ, lq, cq, Qu, P, by omega, hql, by go_num, rfl, rfl, rfl, ⟨rfl, rfl, rfl, rfl, rfl, rfl, rfl, rfl, rfl, rfl, rfl, rfl, rfl, rfl, rfl, rfl, rfl, rfl⟩, hB, hbq, Hlq.out, Hpe.out, hI, hvs, hd, hdk2, hP, hQ⟩, by rw [Hmu.out]; show (c.O p).length - ((k : Int) + 1).toNat < _; omega⟩
      · have cB := (aBc.below hB hb1).mr x hxm'
        simp only [hbx] at cB
        simp only [hPx] at cP
        have b4 : (x : Int) < (mm : Int) := by omega
        have hdk2 : ∀ h ∈ (c.O p).take (k + 1), c.s0.bg h = false → P h = true := fun h hh hb => by
          rcases htm h hh with h1 | h1
          · exact hdk h h1 hb
          · rw [h1] at hb ⊢; first | exact hPx | (rw [hbx] at hb; cases hb)
        obtain ⟨xf, hxa, hxf⟩ := fr_of a hS.sz hS.df
        have hq18 := (hxf 18).symm.trans hS.s18
        have hq19 := (hxf 19).symm.trans hS.s19
        have hq20 := (hxf 20).symm.trans hS.s20
        have hq26 := (hxf 26).symm.trans hS.s26
        have hq27 := (hxf 27).symm.trans hS.s27
        have hq29 := (hxf 29).symm.trans hS.s29
        have hq30 := (hxf 30).symm.trans hS.s30
        have hq31 := (hxf 31).symm.trans hS.s31
        have hq32 := (hxf 32).symm.trans hS.s32
        have hq33 := (hxf 33).symm.trans hS.s33
        have hq34 := (hxf 34).symm.trans hS.s34
        have hq39 := (hxf 39).symm.trans hS.s39
        have hq42 := (hxf 42).symm.trans hS.s42
        have hq43 := (hxf 43).symm.trans hS.s43
        have hq44 := (hxf 44).symm.trans hS.s44
        have hq45 := (hxf 45).symm.trans hS.s45
        have hq48 := (hxf 48).symm.trans h48
        have hq295 := (hxf 295).symm.trans h295
        have hq296 := (hxf 296).symm.trans h296
        have hq297 := (hxf 297).symm.trans h297
        subst hxa
        conv => arg 4; simp only [fr, hq18, hq19, hq20, hq26, hq27, hq29, hq30, hq31, hq32, hq33, hq34, hq39, hq42, hq43, hq44, hq45, hq48, hq295, hq296, hq297]
        clear hxf hS h48 h295 h296 h297 hq18 hq19 hq20 hq26 hq27 hq29 hq30 hq31 hq32 hq33 hq34 hq39 hq42 hq43 hq44 hq45 hq48 hq295 hq296 hq297
        go_wp2_with fail
        exact ⟨⟨k + 1, gQ, lq, cq, Qu, P, by omega, hql, by go_num, rfl, rfl, rfl, ⟨rfl, rfl, rfl, rfl, rfl, rfl, rfl, rfl, rfl, rfl, rfl, rfl, rfl, rfl, rfl, rfl, rfl, rfl⟩, hB, hbq, Hlq.out, Hpe.out, hI, hvs, hd, hdk2, hP, hQ⟩, by rw [Hmu.out]; show (c.O p).length - ((k : Int) + 1).toNat < _; omega⟩
      · have cB := (aBc.below hB hb1).mr x hxm'
        simp only [hbx] at cB
        simp only [hPx] at cP
        have b4 : (x : Int) < (mm : Int) := by omega
        have hP2 := hP.setMr x (.bool true)
        rw [fBool] at hP2
        have hQ2 := hQ.other gP x (.bool true) (ty_ne hQ.ty hP.ty (by decide))
        have hB2 := below_set hB gP x (.bool true) hb2
        have hI2 := hI.push hPx (by omega) (hip.step hxm hbx)
        have hvs2 : ∀ v ∈ c.vs, upd P x true v = true := fun v hv => upd_true.2 (.inr (hvs v hv))
        have hd2 : ∀ j, j < q → ∀ h ∈ c.O ((Qu ++ [x]).getD j 0), c.s0.bg h = false → upd P x true h = true := fun j hj h hh hb => by
          rw [getD_app Qu x j (by have := Hlq.out; omega)] at hh
          exact upd_true.2 (.inr (hd j hj h hh hb))
        have hdk2 : ∀ h ∈ (c.O p).take (k + 1), c.s0.bg h = false → upd P x true h = true := fun h hh hb => by
          rcases htm h hh with h1 | h1
          · exact upd_true.2 (.inr (hdk h h1 hb))
          · exact upd_true.2 (.inl h1)
        have Hpe2 : Hid (p = (Qu ++ [x]).getD q 0) := by
          show _ = _
          rw [getD_app Qu x q (by have := Hlq.out; omega)]
          exact Hpe.out
        clear hP hQ hB hI hvs hd hdk htm
        obtain ⟨xf, hxa, hxf⟩ := fr_of a hS.sz hS.df
        have hq18 := (hxf 18).symm.trans hS.s18
        have hq19 := (hxf 19).symm.trans hS.s19
        have hq20 := (hxf 20).symm.trans hS.s20
        have hq26 := (hxf 26).symm.trans hS.s26
        have hq27 := (hxf 27).symm.trans hS.s27
        have hq29 := (hxf 29).symm.trans hS.s29
        have hq30 := (hxf 30).symm.trans hS.s30
        have hq31 := (hxf 31).symm.trans hS.s31
        have hq32 := (hxf 32).symm.trans hS.s32
        have hq33 := (hxf 33).symm.trans hS.s33
        have hq34 := (hxf 34).symm.trans hS.s34
        have hq39 := (hxf 39).symm.trans hS.s39
        have hq42 := (hxf 42).symm.trans hS.s42
        have hq43 := (hxf 43).symm.trans hS.s43
        have hq44 := (hxf 44).symm.trans hS.s44
        have hq45 := (hxf 45).symm.trans hS.s45
        have hq48 := (hxf 48).symm.trans h48
        have hq295 := (hxf 295).symm.trans h295
        have hq296 := (hxf 296).symm.trans h296
        have hq297 := (hxf 297).symm.trans h297
        subst hxa
        conv => arg 4; simp only [fr, hq18, hq19, hq20, hq26, hq27, hq29, hq30, hq31, hq32, hq33, hq34, hq39, hq42, hq43, hq44, hq45, hq48, hq295, hq296, hq297]
        clear hxf hS h48 h295 h296 h297 hq18 hq19 hq20 hq26 hq27 hq29 hq30 hq31 hq32 hq33 hq34 hq39 hq42 hq43 hq44 hq45 hq48 hq295 hq296 hq297
        go_upto_region 82 with (fail)
        generalize wx.setCell ⟨gP, x, none⟩ (.bool true) = wd at *
        go_wp2_with (at_builtin; refine wpList_append_arr rfl (.tmp 321) (.tmp 323) 33 rfl 3 i3 (.int .i64 0) 8 Yba.underlying33 hi3 hz30 hz31 hz32 rfl gQ lq cq _ rfl hQ2 rfl rfl ?c1 ?c2 ?_)
        case c1 => unfold maxLen; omega
        case c2 => omega
        intro g' c' w2 hQ3 hg2 hn2
        rw [nv_app] at hQ3
        have hP3 := hP2.grown hg2 (fun e => ty_ne hP2.ty hQ2.ty (by decide) (Option.some.inj e))
        have hB3 : Below B1 w w2 := hB2.grown hg2 (by have := hB2.size; have := hQ2.lt; omega) (fun k hk => by cases hk; exact hbq)
        have hbq2 : B1 ≤ g' := by have := hQ2.lt; rcases hn2 with h | h <;> omega
        clear hP2 hQ2 hB2 hg2 hn2
        go_wp2_with fail
        exact ⟨⟨k + 1, g', lq + 1, c', Qu ++ [x], upd P x true, by omega, by omega, by go_num, rfl, rfl, rfl, ⟨rfl, rfl, rfl, rfl, rfl, rfl, rfl, rfl, rfl, rfl, rfl, rfl, rfl, rfl, rfl, rfl, rfl, rfl⟩, hB3, hbq2, by simp [Hlq.out], Hpe2.out, hI2, hvs2, hd2, hdk2, hP3, hQ3⟩, by rw [Hmu.out]; show (c.O p).length - ((k : Int) + 1).toNat < _; omega⟩
      · simp only [hPx] at cP
        have b4 : decide ((x : Int) < (mm : Int)) = false := by simp; omega
        have hdk2 : ∀ h ∈ (c.O p).take (k + 1), c.s0.bg h = false → P h = true := fun h hh hb => by
          rcases htm h hh with h1 | h1
          · exact hdk h h1 hb
          · rw [h1] at hb ⊢; first | exact hPx | (rw [hbx] at hb; cases hb)
        obtain ⟨xf, hxa, hxf⟩ := fr_of a hS.sz hS.df
        have hq18 := (hxf 18).symm.trans hS.s18
        have hq19 := (hxf 19).symm.trans hS.s19
        have hq20 := (hxf 20).symm.trans hS.s20
        have hq26 := (hxf 26).symm.trans hS.s26
        have hq27 := (hxf 27).symm.trans hS.s27
        have hq29 := (hxf 29).symm.trans hS.s29
        have hq30 := (hxf 30).symm.trans hS.s30
        have hq31 := (hxf 31).symm.trans hS.s31
        have hq32 := (hxf 32).symm.trans hS.s32
        have hq33 := (hxf 33).symm.trans hS.s33
        have hq34 := (hxf 34).symm.trans hS.s34
        have hq39 := (hxf 39).symm.trans hS.s39
        have hq42 := (hxf 42).symm.trans hS.s42
        have hq43 := (hxf 43).symm.trans hS.s43
        have hq44 := (hxf 44).symm.trans hS.s44
        have hq45 := (hxf 45).symm.trans hS.s45
        have hq48 := (hxf 48).symm.trans h48
        have hq295 := (hxf 295).symm.trans h295
        have hq296 := (hxf 296).symm.trans h296
        have hq297 := (hxf 297).symm.trans h297
        subst hxa
        conv => arg 4; simp only [fr, hq18, hq19, hq20, hq26, hq27, hq29, hq30, hq31, hq32, hq33, hq34, hq39, hq42, hq43, hq44, hq45, hq48, hq295, hq296, hq297]
        clear hxf hS h48 h295 h296 h297 hq18 hq19 hq20 hq26 hq27 hq29 hq30 hq31 hq32 hq33 hq34 hq39 hq42 hq43 hq44 hq45 hq48 hq295 hq296 hq297
        go_wp2_with fail
        exact ⟨⟨k + 1, gQ, lq, cq, Qu, P, by omega, hql, by go_num, rfl, rfl, rfl, ⟨rfl, rfl, rfl, rfl, rfl, rfl, rfl, rfl, rfl, rfl, rfl, rfl, rfl, rfl, rfl, rfl, rfl, rfl⟩, hB, hbq, Hlq.out, Hpe.out, hI, hvs, hd, hdk2, hP, hQ⟩, by rw [Hmu.out]; show (c.O p).length - ((k : Int) + 1).toNat < _; omega⟩
      · simp only [hPx] at cP
        have hbx := hbo x hxm'
        have b4 : ¬ (x : Int) < (mm : Int) := by omega
        have hP2 := hP.setMr x (.bool true)
        rw [fBool] at hP2
        have hQ2 := hQ.other gP x (.bool true) (ty_ne hQ.ty hP.ty (by decide))
        have hB2 := below_set hB gP x (.bool true) hb2
        have hI2 := hI.push hPx (by omega) (hip.step hxm hbx)
        have hvs2 : ∀ v ∈ c.vs, upd P x true v = true := fun v hv => upd_true.2 (.inr (hvs v hv))
        have hd2 : ∀ j, j < q → ∀ h ∈ c.O ((Qu ++ [x]).getD j 0), c.s0.bg h = false → upd P x true h = true := fun j hj h hh hb => by
          rw [getD_app Qu x j (by have := Hlq.out; omega)] at hh
          exact upd_true.2 (.inr (hd j hj h hh hb))
        have hdk2 : ∀ h ∈ (c.O p).take (k + 1), c.s0.bg h = false → upd P x true h = true := fun h hh hb => by
          rcases htm h hh with h1 | h1
          · exact upd_true.2 (.inr (hdk h h1 hb))
          · exact upd_true.2 (.inl h1)
        have Hpe2 : Hid (p = (Qu ++ [x]).getD q 0) := by
          show _ = _
          rw [getD_app Qu x q (by have := Hlq.out; omega)]
          exact Hpe.out
        clear hP hQ hB hI hvs hd hdk htm
        obtain ⟨xf, hxa, hxf⟩ := fr_of a hS.sz hS.df
        have hq18 := (hxf 18).symm.trans hS.s18
        have hq19 := (hxf 19).symm.trans hS.s19
        have hq20 := (hxf 20).symm.trans hS.s20
        have hq26 := (hxf 26).symm.trans hS.s26
        have hq27 := (hxf 27).symm.trans hS.s27
        have hq29 := (hxf 29).symm.trans hS.s29
        have hq30 := (hxf 30).symm.trans hS.s30
        have hq31 := (hxf 31).symm.trans hS.s31
        have hq32 := (hxf 32).symm.trans hS.s32
        have hq33 := (hxf 33).symm.trans hS.s33
        have hq34 := (hxf 34).symm.trans hS.s34
        have hq39 := (hxf 39).symm.trans hS.s39
        have hq42 := (hxf 42).symm.trans hS.s42
        have hq43 := (hxf 43).symm.trans hS.s43
        have hq44 := (hxf 44).symm.trans hS.s44
        have hq45 := (hxf 45).symm.trans hS.s45
        have hq48 := (hxf 48).symm.trans h48
        have hq295 := (hxf 295).symm.trans h295
        have hq296 := (hxf 296).symm.trans h296
        have hq297 := (hxf 297).symm.trans h297
        subst hxa
        conv => arg 4; simp only [fr, hq18, hq19, hq20, hq26, hq27, hq29, hq30, hq31, hq32, hq33, hq34, hq39, hq42, hq43, hq44, hq45, hq48, hq295, hq296, hq297]
        clear hxf hS h48 h295 h296 h297 hq18 hq19 hq20 hq26 hq27 hq29 hq30 hq31 hq32 hq33 hq34 hq39 hq42 hq43 hq44 hq45 hq48 hq295 hq296 hq297
        go_upto_region 82 with (fail)
        generalize wx.setCell ⟨gP, x, none⟩ (.bool true) = wd at *
        go_wp2_with (at_builtin; refine wpList_append_arr rfl (.tmp 321) (.tmp 323) 33 rfl 3 i3 (.int .i64 0) 8 Yba.underlying33 hi3 hz30 hz31 hz32 rfl gQ lq cq _ rfl hQ2 rfl rfl ?c1 ?c2 ?_)
        case c1 => unfold maxLen; omega
        case c2 => omega
        intro g' c' w2 hQ3 hg2 hn2
        rw [nv_app] at hQ3
        have hP3 := hP2.grown hg2 (fun e => ty_ne hP2.ty hQ2.ty (by decide) (Option.some.inj e))
        have hB3 : Below B1 w w2 := hB2.grown hg2 (by have := hB2.size; have := hQ2.lt; omega) (fun k hk => by cases hk; exact hbq)
        have hbq2 : B1 ≤ g' := by have := hQ2.lt; rcases hn2 with h | h <;> omega
        clear hP2 hQ2 hB2 hg2 hn2
        go_wp2_with fail
        exact ⟨⟨k + 1, g', lq + 1, c', Qu ++ [x], upd P x true, by omega, by omega, by go_num, rfl, rfl, rfl, ⟨rfl, rfl, rfl, rfl, rfl, rfl, rfl, rfl, rfl, rfl, rfl, rfl, rfl, rfl, rfl, rfl, rfl, rfl⟩, hB3, hbq2, by simp [Hlq.out], Hpe2.out, hI2, hvs2, hd2, hdk2, hP3, hQ3⟩, by rw [Hmu.out]; show (c.O p).length - ((k : Int) + 1).toNat < _; omega⟩
    · have hdk2 : ∀ h ∈ c.O p, c.s0.bg h = false → P h = true := fun h hh => hdk h (by rw [List.take_of_length_le (by omega)]; exact hh)
      have hd2 : ∀ j, j < q + 1 → ∀ h ∈ c.O (Qu.getD j 0), c.s0.bg h = false → P h = true := fun j hj h hh hb => by
        by_cases e : j = q
        · rw [e, ← Hpe.out] at hh; exact hdk2 h hh hb
        · exact hd j (by omega) h hh hb
      obtain ⟨xf, hxa, hxf⟩ := fr_of a hS.sz hS.df
      have hq18 := (hxf 18).symm.trans hS.s18
      have hq19 := (hxf 19).symm.trans hS.s19
      have hq20 := (hxf 20).symm.trans hS.s20
      have hq26 := (hxf 26).symm.trans hS.s26
      have hq27 := (hxf 27).symm.trans hS.s27
      have hq29 := (hxf 29).symm.trans hS.s29
      have hq30 := (hxf 30).symm.trans hS.s30
      have hq31 := (hxf 31).symm.trans hS.s31
      have hq32 := (hxf 32).symm.trans hS.s32
      have hq33 := (hxf 33).symm.trans hS.s33
      have hq34 := (hxf 34).symm.trans hS.s34
      have hq39 := (hxf 39).symm.trans hS.s39
      have hq42 := (hxf 42).symm.trans hS.s42
      have hq43 := (hxf 43).symm.trans hS.s43
      have hq44 := (hxf 44).symm.trans hS.s44
      have hq45 := (hxf 45).symm.trans hS.s45
      have hq48 := (hxf 48).symm.trans h48
      have hq295 := (hxf 295).symm.trans h295
      have hq296 := (hxf 296).symm.trans h296
      have hq297 := (hxf 297).symm.trans h297
      subst hxa
      conv => arg 4; simp only [fr, hq18, hq19, hq20, hq26, hq27, hq29, hq30, hq31, hq32, hq33, hq34, hq39, hq42, hq43, hq44, hq45, hq48, hq295, hq296, hq297]
      clear hxf hS h48 h295 h296 h297 hq18 hq19 hq20 hq26 hq27 hq29 hq30 hq31 hq32 hq33 hq34 hq39 hq42 hq43 hq44 hq45 hq48 hq295 hq296 hq297
      go_wp2_with fail
      exact ⟨⟨q + 1, gQ, lq, cq, Qu, P, by omega, by go_num, ⟨rfl, rfl, rfl, rfl, rfl, rfl, rfl, rfl, rfl, rfl, rfl, rfl, rfl, rfl, rfl, rfl, rfl, rfl⟩, hB, hbq, Hlq.out, hI, hvs, hd2, hP, hQ⟩, by rw [Hmo.out]; show n + 1 - ((q : Int) + 1).toNat < _; omega⟩
  · obtain rfl : q = lq := by omega
    rw [hlq] at hd
    have hfin := hI.final hvs hd
    have Hlq : Hid (q = Qu.length) := hlq
    clear hlq
    obtain ⟨xf, hxa, hxf⟩ := fr_of a hS.sz hS.df
    have hq18 := (hxf 18).symm.trans hS.s18
    have hq19 := (hxf 19).symm.trans hS.s19
    have hq20 := (hxf 20).symm.trans hS.s20
    have hq26 := (hxf 26).symm.trans hS.s26
    have hq27 := (hxf 27).symm.trans hS.s27
    have hq29 := (hxf 29).symm.trans hS.s29
    have hq30 := (hxf 30).symm.trans hS.s30
    have hq31 := (hxf 31).symm.trans hS.s31
    have hq32 := (hxf 32).symm.trans hS.s32
    have hq33 := (hxf 33).symm.trans hS.s33
    have hq34 := (hxf 34).symm.trans hS.s34
    have hq39 := (hxf 39).symm.trans hS.s39
    have hq42 := (hxf 42).symm.trans hS.s42
    have hq43 := (hxf 43).symm.trans hS.s43
    have hq44 := (hxf 44).symm.trans hS.s44
    have hq45 := (hxf 45).symm.trans hS.s45
    have hq48 := (hxf 48).symm.trans h48
    subst hxa
    conv => arg 4; simp only [fr, hq18, hq19, hq20, hq26, hq27, hq29, hq30, hq31, hq32, hq33, hq34, hq39, hq42, hq43, hq44, hq45, hq48]
    clear hxf hS h48 hq18 hq19 hq20 hq26 hq27 hq29 hq30 hq31 hq32 hq33 hq34 hq39 hq42 hq43 hq44 hq45 hq48
    go_wp2_with fail
    exact HK.out _ _ (Hn.out _ _ P ⟨rfl, rfl, rfl, rfl, rfl, rfl, rfl, rfl, rfl, rfl, rfl, rfl, rfl, rfl, rfl, rfl, rfl⟩ hB hfin hP)
end Go.Proofs.Ybulkekys
