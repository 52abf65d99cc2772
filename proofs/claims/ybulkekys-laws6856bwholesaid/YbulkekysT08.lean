import Derived.Test.YbulkekysT0
namespace Go.Proofs.Ybulkekys
open Go.RowKit

/-- Rows of ints, all at b1 or behind. -/
structure RO (b1 : Nat) (w : World) (O : Nat → List Nat) (R : Nat → Value) : Prop where
  row : ∀ j, w.ownsRow 0 3 1 (R j) (O j).length (nv .i64 (O j))
  rB : ∀ j g, (R j).ownBlock = some g → b1 ≤ g
theorem RO.start {b1 : Nat} {w : World} : RO b1 w (fun _ => []) (fun _ => .slice none 0 0) :=
  ⟨fun _ => ⟨rfl, .inl ⟨rfl, rfl⟩⟩, fun _ g h => (by cases h)⟩
section
variable {b1 : Nat} {w w' : World} {O : Nat → List Nat} {R : Nat → Value}
theorem RO.blk (h : RO b1 w O R) (hb : ∀ k, b1 ≤ k → k < w.heap.size → w'.heap[k]? = w.heap[k]?) : RO b1 w' O R :=
  { h with row := fun j => row_blk (h.row j) (fun g hg => hb g (h.rB j g hg) (row_lt (h.row j) hg)) }
theorem RO.set (h : RO b1 w O R) (g o : Nat) (u : Value) (hg : g < b1) : RO b1 (w.setCell ⟨g, o, none⟩ u) O R :=
  h.blk (fun k hk _ => Below.heap_setCell w _ u k (fun e => by have e' : k = g := e; omega))
theorem RO.below (h : RO b1 w O R) (hb : Below w.heap.size w w') : RO b1 w' O R := h.blk (fun k _ hk => hb.block k hk)
theorem RO.put (h : RO b1 w O R) (i : Nat) (v : Value) (l : List Nat) (hv : w.ownsRow 0 3 1 v l.length (nv .i64 l)) (hn : ∀ g, v.ownBlock = some g → b1 ≤ g) : RO b1 w (upd O i l) (upd R i v) := by
  refine ⟨fun j => ?_, fun j g hg => ?_⟩
  · by_cases e : j = i
    · subst e; rw [upd_same, upd_same]; exact hv
    · rw [upd_other _ _ _ _ e, upd_other _ _ _ _ e]; exact h.row j
  · by_cases e : j = i
    · subst e; rw [upd_same] at hg; exact hn g hg
    · rw [upd_other _ _ _ _ e] at hg; exact h.rB j g hg
end
def oTo (O : Nat → List Nat) (p : Nat) : Nat → List Nat := fun j => if j < p then O j else []
theorem oTo_step (O : Nat → List Nat) (p : Nat) : oTo O (p + 1) = upd (oTo O p) p (O p) := by
  funext i
  unfold oTo
  by_cases e : i = p
  · subst e; simp [upd_same]
  · rw [upd_other _ _ _ _ e]
    by_cases h : i < p
    · simp [h, show i < p + 1 by omega]
    · simp [h, show ¬ i < p + 1 by omega]

/-- The memory while loop 2 runs. -/
structure M8 (B1 b1 : Nat) (w0 w : World) (n gO gOc i1 i2 : Nat) (O : Nat → List Nat) (R rc : Nat → Value) : Prop where
  hB : Below B1 w0 w
  hs : b1 ≤ w.heap.size
  aO : Arr w gO 33 n n (mr n R)
  aC : Arr w gOc 33 n n (mr n rc)
  rO : RO b1 w (oTo O i1) R
  rC : RO b1 w (oTo O i2) rc
  lO : B1 ≤ gO ∧ gO < gOc ∧ gOc < b1
section
variable {B1 b1 : Nat} {w0 w w' : World} {n gO gOc i1 i2 : Nat} {O : Nat → List Nat} {R rc : Nat → Value}
theorem M8.below (h : M8 B1 b1 w0 w n gO gOc i1 i2 O R rc) (hb : Below w.heap.size w w') : M8 B1 b1 w0 w' n gO gOc i1 i2 O R rc :=
  { h with
    hB := h.hB.trans (hb.mono (by have := h.hs; have := h.lO; omega))
    hs := Nat.le_trans h.hs hb.size
    aO := h.aO.below hb h.aO.lt
    aC := h.aC.below hb h.aC.lt
    rO := h.rO.below hb
    rC := h.rC.below hb }
theorem M8.putO (h : M8 B1 b1 w0 w n gO gOc i1 i2 O R rc) (v : Value) (hv : w.ownsRow 0 3 1 v (O i1).length (nv .i64 (O i1))) (hn : ∀ g, v.ownBlock = some g → b1 ≤ g) : M8 B1 b1 w0 (w.setCell ⟨gO, i1, none⟩ v) n gO gOc (i1 + 1) i2 O (upd R i1 v) rc :=
  { h with
    hB := below_set h.hB gO i1 _ h.lO.1
    hs := by have := h.hs; simpa using this
    aO := h.aO.setMr i1 _
    aC := h.aC.other _ _ _ (by have := h.lO; omega)
    rO := by
      rw [oTo_step]
      refine (h.rO.set gO i1 v (by have := h.lO; omega)).put i1 v _ (row_blk hv (fun g hg => Below.heap_setCell w _ _ g (fun e => by
        have e' : g = gO := e
        have := hn g hg
        have := h.lO
        omega))) hn
    rC := h.rC.set gO i1 v (by have := h.lO; omega) }
theorem M8.putC (h : M8 B1 b1 w0 w n gO gOc i1 i2 O R rc) (v : Value) (hv : w.ownsRow 0 3 1 v (O i2).length (nv .i64 (O i2))) (hn : ∀ g, v.ownBlock = some g → b1 ≤ g) : M8 B1 b1 w0 (w.setCell ⟨gOc, i2, none⟩ v) n gO gOc i1 (i2 + 1) O R (upd rc i2 v) :=
  { h with
    hB := below_set h.hB gOc i2 _ (by have := h.lO; omega)
    hs := by have := h.hs; simpa using this
    aO := h.aO.other _ _ _ (by have := h.lO; omega)
    aC := h.aC.setMr i2 _
    rO := h.rO.set gOc i2 v (by have := h.lO; omega)
    rC := by
      rw [oTo_step]
      refine (h.rC.set gOc i2 v (by have := h.lO; omega)).put i2 v _ (row_blk hv (fun g hg => Below.heap_setCell w _ _ g (fun e => by
        have e' : g = gOc := e
        have := hn g hg
        have := h.lO
        omega))) hn }
end

set_option maxHeartbeats 8000000 in
set_option maxRecDepth 1000000 in
theorem ph8 (Q : Exit → Act → World → Prop) (B1 b1 : Nat) (w0 w : World) (x0 : Option Addr) (l0 : Nat) (c0 : Nat) (x1 : Option Addr) (l1 : Nat) (c1 : Nat) (x2 : Option Addr) (l2 : Nat) (c2 : Nat) (x3 : Option Addr) (l3 : Nat) (c3 : Nat) (x4 : Option Addr) (l4 : Nat) (c4 : Nat) (x5 : Option Addr) (l5 : Nat) (c5 : Nat) (mq : Nat) (n : Nat) (gO : Nat) (gOc : Nat) (A : Nat → Option Addr) (L C : Nat → Nat) (f : Nat → Nat → Nat) (O : Nat → List Nat) (hn : n = l0 + 1) (hl0 : l0 ≤ 4096) (hL : ∀ i, i < l0 → L i ≤ 65536) (hf : ∀ i k, f i k ≤ 65535)
    (hO : ∀ i, i < l0 → O i = (List.range (L i)).map fun k => f i k % n)
    (hrd : ∀ w', Below B1 w0 w' → RdR w' x0 l0 A L C f)
    (h : M8 B1 b1 w0 w n gO gOc 0 0 O (fun _ => .slice none 0 0) (fun _ => .slice none 0 0))
    (a : Act) (hS : S8 a x0 l0 c0 x1 l1 c1 x2 l2 c2 x3 l3 c3 x4 l4 c4 x5 l5 c5 mq n gO gOc)
    (next : ∀ a' w' R rc, S9 a' x1 l1 c1 x2 l2 c2 x3 l3 c3 x4 l4 c4 x5 l5 c5 mq n gO gOc → M8 B1 b1 w0 w' n gO gOc l0 l0 O R rc → Code.wp Yba.prog (dropSeq 9 (Yba.f4.body.getD .skip)) Q a' w') :
    Code.wp Yba.prog (dropSeq 8 (Yba.f4.body.getD .skip)) Q a w := by
  obtain ⟨i3, hi3, hz30, hz31, hz32⟩ := info_parts I.infoE
  have Hn : Hid _ := next
  have Hrd : Hid _ := hrd
  have HO : Hid _ := hO
  have H : Hid _ := h
  have hn2 : n ≤ 4097 := by omega
  have hn3 : l0 < n := by omega
  have hn0 : ¬ n = 0 := by omega
  clear next hrd hO h hn
  obtain ⟨xf, hxa, hxf⟩ := fr_of a hS.sz hS.df
  have hq0 := (hxf 0).symm.trans hS.s0
  have hq1 := (hxf 1).symm.trans hS.s1
  have hq2 := (hxf 2).symm.trans hS.s2
  have hq3 := (hxf 3).symm.trans hS.s3
  have hq4 := (hxf 4).symm.trans hS.s4
  have hq5 := (hxf 5).symm.trans hS.s5
  have hq6 := (hxf 6).symm.trans hS.s6
  have hq18 := (hxf 18).symm.trans hS.s18
  have hq19 := (hxf 19).symm.trans hS.s19
  have hq20 := (hxf 20).symm.trans hS.s20
  subst hxa
  conv => arg 4; simp only [fr, hq0, hq1, hq2, hq3, hq4, hq5, hq6, hq18, hq19, hq20]
  clear hxf hS  hq0 hq1 hq2 hq3 hq4 hq5 hq6 hq18 hq19 hq20
  conv => arg 2; whnf
  refine wp_seq_k (fun K hK => ?_)
  have HK : Hid _ := hK
  clear hK
  go_wp2_with fail
  refine wp_loop (fun a w' => ∃ (i : Nat) (R rc : Nat → Value), i ≤ l0 ∧ a.tmps.getD 99 undef = .int .i64 (i : Int) ∧ a.tmps.getD 97 undef = .slice x0 l0 c0 ∧ a.tmps.getD 98 undef = .int .i64 (l0 : Int) ∧ S8 a x0 l0 c0 x1 l1 c1 x2 l2 c2 x3 l3 c3 x4 l4 c4 x5 l5 c5 mq n gO gOc ∧ M8 B1 b1 w0 w' n gO gOc i i O R rc) (fun a _ => l0 - (intOf (a.tmps.getD 99 undef)).toNat) ⟨0, _, _, Nat.zero_le _, rfl, rfl, rfl, ⟨rfl, rfl, rfl, rfl, rfl, rfl, rfl, rfl, rfl, rfl, rfl, rfl⟩, H.out⟩ (fun a wr hI => ?_)
  clear H
  obtain ⟨i, R, rc, hi, h99, h97, h98, hS, h⟩ := hI
  have H : Hid _ := h
  have Hmo : Hid (l0 - (intOf (a.tmps.getD 99 undef)).toNat = l0 - i) := by show _ = _; rw [h99]; simp [intOf]
  by_cases hlt : i < l0
  · have hOi := HO.out i hlt
    have hLi := hL i hlt
    have hrdi := Hrd.out wr h.hB
    clear h
    obtain ⟨b, off, hx, hbl, cX, hrow⟩ := hrdi i hlt
    clear hrdi
    have h97' := h97
    rw [hx] at h97'
    obtain ⟨y, hy⟩ : ∃ y, y = L i := ⟨_, rfl⟩
    rw [← hy] at hLi cX hrow hOi
    have Hy : Hid (y = L i) := hy
    clear hy
    obtain ⟨xa, hxa⟩ : ∃ xa, xa = A i := ⟨_, rfl⟩
    rw [← hxa] at cX hrow
    have HOi : Hid _ := hOi
    have Hrow : Hid (∀ w', Below wr.heap.size wr w' → RdN w' .u16 xa y (f i)) := fun w' hb => hrow.below hb
    have Hx : Hid (x0 = some ⟨b, off, none⟩) := hx
    clear hxa hOi hrow
    clear h97 hx
    have h97 := h97'
    clear h97'
    generalize C i = cp at *
    have b1' : (0 : Int) ≤ (i : Int) := Int.natCast_nonneg _
    have b2' : (i : Int) < (l0 : Int) := by omega
    obtain ⟨xf, hxa, hxf⟩ := fr_of a hS.sz hS.df
    have hq0 := (hxf 0).symm.trans hS.s0
    have hq1 := (hxf 1).symm.trans hS.s1
    have hq2 := (hxf 2).symm.trans hS.s2
    have hq3 := (hxf 3).symm.trans hS.s3
    have hq4 := (hxf 4).symm.trans hS.s4
    have hq5 := (hxf 5).symm.trans hS.s5
    have hq6 := (hxf 6).symm.trans hS.s6
    have hq18 := (hxf 18).symm.trans hS.s18
    have hq19 := (hxf 19).symm.trans hS.s19
    have hq20 := (hxf 20).symm.trans hS.s20
    have hq97 := (hxf 97).symm.trans h97
    have hq98 := (hxf 98).symm.trans h98
    have hq99 := (hxf 99).symm.trans h99
    subst hxa
    conv => arg 4; simp only [fr, hq0, hq1, hq2, hq3, hq4, hq5, hq6, hq18, hq19, hq20, hq97, hq98, hq99]
    clear hxf hS h97 h98 h99 hq0 hq1 hq2 hq3 hq4 hq5 hq6 hq18 hq19 hq20 hq97 hq98 hq99
    go_wp2_with (at_make; refine wpList_make_arr rfl _ _ 33 rfl 3 i3 (.int .i64 0) 8 Yba.underlying33 hi3 hz30 hz31 hz32 rfl _ _ _ _ y rfl rfl ?m0 ?m1 ?m2 ?m3 ?_)
    case m0 => first | rfl | omega
    case m1 => first | rfl | omega
    case m2 => omega
    case m3 => unfold maxLen; omega
    intro w1 hA1 hg1
    have hb1 : Below wr.heap.size wr w1 := (Below.refl _ _).grown hg1 (Nat.le_refl _) (fun k hk => by cases hk)
    have hlt1 := hA1.lt
    rw [mr_const] at hA1
    clear hg1
    go_wp2_with fail
    generalize hgr : wr.heap.size = gr at *
    rw [nTo_zero y (fun k => f i k % n)] at hA1
    refine wp_loop (fun a w' => ∃ (k : Nat), k ≤ y ∧ a.tmps.getD 109 undef = .int .i64 (k : Int) ∧ a.tmps.getD 107 undef = .slice xa y cp ∧ a.tmps.getD 108 undef = .int .i64 (y : Int) ∧ a.tmps.getD 21 undef = .int .i64 (i : Int) ∧ a.tmps.getD 23 undef = .slice (some ⟨gr, 0, none⟩) y y ∧ a.tmps.getD 97 undef = .slice (some ⟨b, off, none⟩) l0 c0 ∧ a.tmps.getD 98 undef = .int .i64 (l0 : Int) ∧ a.tmps.getD 99 undef = .int .i64 (i : Int) ∧ S8 a x0 l0 c0 x1 l1 c1 x2 l2 c2 x3 l3 c3 x4 l4 c4 x5 l5 c5 mq n gO gOc ∧ Below gr wr w' ∧ Arr w' gr 3 y y (mr y (nTo (fun k => f i k % n) k))) (fun a _ => y - (intOf (a.tmps.getD 109 undef)).toNat) ⟨0, Nat.zero_le _, rfl, rfl, rfl, rfl, rfl, rfl, rfl, rfl, ⟨rfl, rfl, rfl, rfl, rfl, rfl, rfl, rfl, rfl, rfl, rfl, rfl⟩, hb1, hA1⟩ (fun a wx hI => ?_)
    clear hA1 hb1 cX hlt1
    obtain ⟨k, hk, h109, h107, h108, h21, h23, h97, h98, h99, hS, hB, hA⟩ := hI
    have Hmu : Hid (y - (intOf (a.tmps.getD 109 undef)).toNat = y - k) := by show _ = _; rw [h109]; simp [intOf]
    by_cases hky : k < y
    · obtain ⟨b2, off2, rfl, hbl2, cY⟩ := Hrow.out wx hB k hky
      have hfk := hf i k
      have hA2 := hA.setMr k (.int .i64 ((f i k % n : Nat) : Int))
      rw [← nTo_step (fun k => f i k % n) k] at hA2
      have hB2 := below_set hB gr k (.int .i64 ((f i k % n : Nat) : Int)) (Nat.le_refl _)
      have cA := hA.mr k hky
      have fA := hA.fr k
      clear hA hB Hrow
      generalize f i k = x at *
      have hwx : IntKind.i64.wrap (x : Int) = (x : Int) := IntWalk.i64_in _ (by omega)
      have htx : (x : Int).tmod (n : Int) = ((x % n : Nat) : Int) := by rw [Int.tmod_eq_emod_of_nonneg (by omega)]; simp
      generalize x % n = z at *
      obtain ⟨xf, hxa, hxf⟩ := fr_of a hS.sz hS.df
      have hq0 := (hxf 0).symm.trans hS.s0
      have hq1 := (hxf 1).symm.trans hS.s1
      have hq2 := (hxf 2).symm.trans hS.s2
      have hq3 := (hxf 3).symm.trans hS.s3
      have hq4 := (hxf 4).symm.trans hS.s4
      have hq5 := (hxf 5).symm.trans hS.s5
      have hq6 := (hxf 6).symm.trans hS.s6
      have hq18 := (hxf 18).symm.trans hS.s18
      have hq19 := (hxf 19).symm.trans hS.s19
      have hq20 := (hxf 20).symm.trans hS.s20
      have hq21 := (hxf 21).symm.trans h21
      have hq23 := (hxf 23).symm.trans h23
      have hq97 := (hxf 97).symm.trans h97
      have hq98 := (hxf 98).symm.trans h98
      have hq99 := (hxf 99).symm.trans h99
      have hq107 := (hxf 107).symm.trans h107
      have hq108 := (hxf 108).symm.trans h108
      have hq109 := (hxf 109).symm.trans h109
      subst hxa
      conv => arg 4; simp only [fr, hq0, hq1, hq2, hq3, hq4, hq5, hq6, hq18, hq19, hq20, hq21, hq23, hq97, hq98, hq99, hq107, hq108, hq109]
      clear hxf hS h21 h23 h97 h98 h99 h107 h108 h109 hq0 hq1 hq2 hq3 hq4 hq5 hq6 hq18 hq19 hq20 hq21 hq23 hq97 hq98 hq99 hq107 hq108 hq109
      go_wp2_with fail
      exact ⟨⟨k + 1, by omega, by go_num, rfl, rfl, rfl, rfl, rfl, rfl, rfl, ⟨rfl, rfl, rfl, rfl, rfl, rfl, rfl, rfl, rfl, rfl, rfl, rfl⟩, hB2, hA2⟩, by rw [Hmu.out]; show y - ((k : Int) + 1).toNat < _; omega⟩
    · obtain rfl : k = y := by omega
      rw [nTo_full, ← HOi.out] at hA
      have hol : (O i).length = k := by rw [HOi.out]; simp
      have hM := H.out.below (w' := wx) (by rw [hgr]; exact hB)
      have hs := H.out.hs
      have hM2 := hM.putO (.slice (some ⟨gr, 0, none⟩) k k) (by rw [hol]; exact hA) (fun g hg => by simp only [Value.ownBlock, Option.some.injEq] at hg; omega)
      have cO := hM.aO.mr i (by omega)
      have fO := hM.aO.fr i
      have hngO : gr ≠ gO := by have := H.out.lO; omega
      have hA2 := hA.other gO i (.slice (some ⟨gr, 0, none⟩) k k) hngO
      have hC := I.clone_any gr k k _ _ hA2 (nv_one _ _) (by omega)
      have HM2 : Hid _ := hM2
      have Hs : Hid _ := hs
      have Hol : Hid _ := hol
      clear hM hM2 hA hB hs hol hngO hA2
      obtain ⟨xf, hxa, hxf⟩ := fr_of a hS.sz hS.df
      have hq0 := (hxf 0).symm.trans hS.s0
      have hq1 := (hxf 1).symm.trans hS.s1
      have hq2 := (hxf 2).symm.trans hS.s2
      have hq3 := (hxf 3).symm.trans hS.s3
      have hq4 := (hxf 4).symm.trans hS.s4
      have hq5 := (hxf 5).symm.trans hS.s5
      have hq6 := (hxf 6).symm.trans hS.s6
      have hq18 := (hxf 18).symm.trans hS.s18
      have hq19 := (hxf 19).symm.trans hS.s19
      have hq20 := (hxf 20).symm.trans hS.s20
      have hq21 := (hxf 21).symm.trans h21
      have hq23 := (hxf 23).symm.trans h23
      have hq97 := (hxf 97).symm.trans h97
      have hq98 := (hxf 98).symm.trans h98
      have hq99 := (hxf 99).symm.trans h99
      have hq107 := (hxf 107).symm.trans h107
      have hq108 := (hxf 108).symm.trans h108
      have hq109 := (hxf 109).symm.trans h109
      subst hxa
      conv => arg 4; simp only [fr, hq0, hq1, hq2, hq3, hq4, hq5, hq6, hq18, hq19, hq20, hq21, hq23, hq97, hq98, hq99, hq107, hq108, hq109]
      clear hxf hS h21 h23 h97 h98 h99 h107 h108 h109 hq0 hq1 hq2 hq3 hq4 hq5 hq6 hq18 hq19 hq20 hq21 hq23 hq97 hq98 hq99 hq107 hq108 hq109
      go_upto_region 24 with (fail)
      generalize hwd : wx.setCell ⟨gO, i, none⟩ (.slice (some ⟨gr, 0, none⟩) k k) = wd at *
      clear hwd
      go_wp2_with fail
      refine hC.mono ?_
      rintro e w4 ⟨g4, cap4, rfl, hA4, hg4, hb4⟩
      clear hC
      have hM3 := HM2.out.below hb4
      have cC := hM3.aC.mr i (by omega)
      have fC := hM3.aC.fr i
      have hs2 := HM2.out.hs
      have hM4 := hM3.putC (.slice (some ⟨g4, 0, none⟩) k cap4) (by rw [Hol.out]; exact hA4) (fun g hg => by simp only [Value.ownBlock, Option.some.injEq] at hg; omega)
      have HM4 : Hid _ := hM4
      clear hM3 hM4 hA4 hb4 hs2 hg4
      go_wp2_with fail
      exact ⟨⟨i + 1, _, _, by omega, by go_num, by rw [Hx.out]; rfl, rfl, ⟨rfl, rfl, rfl, rfl, rfl, rfl, rfl, rfl, rfl, rfl, rfl, rfl⟩, HM4.out⟩, by rw [Hmo.out]; show l0 - ((i : Int) + 1).toNat < _; omega⟩
  · obtain rfl : i = l0 := by omega
    clear h
    obtain ⟨xf, hxa, hxf⟩ := fr_of a hS.sz hS.df
    have hq0 := (hxf 0).symm.trans hS.s0
    have hq1 := (hxf 1).symm.trans hS.s1
    have hq2 := (hxf 2).symm.trans hS.s2
    have hq3 := (hxf 3).symm.trans hS.s3
    have hq4 := (hxf 4).symm.trans hS.s4
    have hq5 := (hxf 5).symm.trans hS.s5
    have hq6 := (hxf 6).symm.trans hS.s6
    have hq18 := (hxf 18).symm.trans hS.s18
    have hq19 := (hxf 19).symm.trans hS.s19
    have hq20 := (hxf 20).symm.trans hS.s20
    have hq97 := (hxf 97).symm.trans h97
    have hq98 := (hxf 98).symm.trans h98
    have hq99 := (hxf 99).symm.trans h99
    subst hxa
    conv => arg 4; simp only [fr, hq0, hq1, hq2, hq3, hq4, hq5, hq6, hq18, hq19, hq20, hq97, hq98, hq99]
    clear hxf hS h97 h98 h99 hq0 hq1 hq2 hq3 hq4 hq5 hq6 hq18 hq19 hq20 hq97 hq98 hq99
    go_wp2_with fail
    exact HK.out _ _ (Hn.out _ _ R rc ⟨rfl, rfl, rfl, rfl, rfl, rfl, rfl, rfl, rfl, rfl, rfl⟩ H.out)
end Go.Proofs.Ybulkekys
