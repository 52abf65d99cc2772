import Derived.Test.YbulkekysTrI
namespace Go.Proofs.Ybulkekys.I
open Go.RowKit

/-- What the law holds against each other at its end: the graph, the two copies, the transposed graph's box. -/
structure Kept (w : World) (b gs go n m c gA cA gB cB b2 gs2 go2 : Nat) (S O : List Nat) : Prop where
  g : G w b gs go n m c S O
  a : Arr w gA 3 (n + 1) cA (nv .i64 S)
  o : Arr w gB 3 m cB (nv .i64 O)
  box : Box w b2 69 #[.slice (some ⟨gs2, 0, none⟩) (n + 1) (n + 1), .slice (some ⟨go2, 0, none⟩) m m]
theorem Kept.blk {w w' : World} {b gs go n m c gA cA gB cB b2 gs2 go2 : Nat} {S O : List Nat} (h : Kept w b gs go n m c gA cA gB cB b2 gs2 go2 S O)
    (hb : ∀ x, x = b ∨ x = gs ∨ x = go ∨ x = gA ∨ x = gB ∨ x = b2 → w'.heap[x]? = w.heap[x]?) : Kept w' b gs go n m c gA cA gB cB b2 gs2 go2 S O :=
  ⟨h.g.blk (hb _ (by simp)) (hb _ (by simp)) (hb _ (by simp)), h.a.blk (hb _ (by simp)), h.o.blk (hb _ (by simp)), h.box.blk (hb _ (by simp))⟩
theorem Kept.set {w : World} {b gs go n m c gA cA gB cB b2 gs2 go2 : Nat} {S O : List Nat} (h : Kept w b gs go n m c gA cA gB cB b2 gs2 go2 S O) (x o : Nat) (u : Value)
    (hx : x ≠ b ∧ x ≠ gs ∧ x ≠ go ∧ x ≠ gA ∧ x ≠ gB ∧ x ≠ b2) : Kept (w.setCell ⟨x, o, none⟩ u) b gs go n m c gA cA gB cB b2 gs2 go2 S O :=
  h.blk (fun y hy => Below.heap_setCell _ _ _ _ (by
    obtain ⟨h1, h2, h3, h4, h5, h6⟩ := hx
    rcases hy with rfl | rfl | rfl | rfl | rfl | rfl
    · exact fun e => h1 e.symm
    · exact fun e => h2 e.symm
    · exact fun e => h3 e.symm
    · exact fun e => h4 e.symm
    · exact fun e => h5 e.symm
    · exact fun e => h6 e.symm))

/-- The model's sums behind h columns. -/
def Wst (M : Nat → Nat → Bool) (n h : Nat) (W : List Nat) : Prop := W.length = n + 1 ∧ ∀ x, x ≤ h → W.getD x 0 = (flat (fun y => colTo M y n) x).length
theorem colTo_len (M : Nat → Nat → Bool) (h : Nat) : ∀ k, (colTo M h k).length ≤ k
  | 0 => by simp [colTo]
  | k + 1 => by
    have := colTo_len M h k
    simp only [colTo, List.length_append]
    split <;> simp <;> omega
theorem flat_col_len (M : Nat → Nat → Bool) (n : Nat) : ∀ h, (flat (fun y => colTo M y n) h).length ≤ h * n
  | 0 => by simp [flat]
  | h + 1 => by
    have h1 := flat_col_len M n h
    have h2 := colTo_len M h n
    rw [flat, List.length_append, Nat.succ_mul]
    omega

/-- All that the law compares. -/
structure Fin_ (w : World) (b gs go n m c gA cA gB cB b2 gs2 go2 gW gO cO : Nat) (S O S2 T : List Nat) : Prop where
  k : Kept w b gs go n m c gA cA gB cB b2 gs2 go2 S O
  ts : Arr w gs2 3 (n + 1) (n + 1) (nv .i64 S2)
  tou : Arr w go2 3 m m (nv .i64 T)
  ws : Arr w gW 3 (n + 1) (n + 1) (nv .i64 S2)
  wo : Arr w gO 3 m cO (nv .i64 T)
theorem Fin_.drewN {w : World} {b gs go n m c gA cA gB cB b2 gs2 go2 gW gO cO : Nat} {S O S2 T : List Nat} (h : Fin_ w b gs go n m c gA cA gB cB b2 gs2 go2 gW gO cO S O S2 T) (q : Nat) : Fin_ (w.drewN q) b gs go n m c gA cA gB cB b2 gs2 go2 gW gO cO S O S2 T :=
  ⟨h.k.blk (fun _ _ => rfl), h.ts.drewN q, h.tou.drewN q, h.ws.drewN q, h.wo.drewN q⟩
theorem Kept.drewN {w : World} {b gs go n m c gA cA gB cB b2 gs2 go2 : Nat} {S O : List Nat} (h : Kept w b gs go n m c gA cA gB cB b2 gs2 go2 S O) (q : Nat) : Kept (w.drewN q) b gs go n m c gA cA gB cB b2 gs2 go2 S O := h.blk (fun _ _ => rfl)
/-- The cells of the two boxes, for the walk. -/
theorem Kept.cells {w : World} {b gs go n m c gA cA gB cB b2 gs2 go2 : Nat} {S O : List Nat} (h : Kept w b gs go n m c gA cA gB cB b2 gs2 go2 S O) :
    w.cell? ⟨b, 0, none⟩ = some (.slice (some ⟨gs, 0, none⟩) (n + 1) (n + 1)) ∧ w.cell? ⟨b, 1, none⟩ = some (.slice (some ⟨go, 0, none⟩) m c) ∧
    w.cell? ⟨b2, 0, none⟩ = some (.slice (some ⟨gs2, 0, none⟩) (n + 1) (n + 1)) ∧ w.cell? ⟨b2, 1, none⟩ = some (.slice (some ⟨go2, 0, none⟩) m m) :=
  ⟨h.g.box.cell 0, h.g.box.cell 1, h.box.cell 0, h.box.cell 1⟩

/-- All edges, column by column. -/
def fc (M : Nat → Nat → Bool) (n h : Nat) : List Nat := flat (fun y => colTo M y n) h
theorem fc_succ (M : Nat → Nat → Bool) (n h : Nat) : fc M n (h + 1) = fc M n h ++ colTo M h n := rfl

set_option maxHeartbeats 4000000 in
set_option maxRecDepth 100000 in
theorem check_any (n nn gm : Nat) (mb : List Bool) (w : World) (hn : n ≤ 299) (Hnn : Hid (nn = n * n)) (hgm : gm < w.heap.size) (hM : Arr w gm 4 nn nn (bv mb)) :
    Calls Yba.prog 5 #[.int .i64 (n : Int), .slice (some ⟨gm, 0, none⟩) nn nn] w fun e w' => e = .returned (.bool true) ∧ Below w.heap.size w w' := by
  obtain ⟨i0, hi, hz0, hz1, hz2⟩ := info_parts infoE
  have hnn : nn ≤ 89401 := by rw [Hnn.out]; exact nn_le hn
  go_enter Yba.func5, Yba.ntmps5
  go_wp2_with fail
  refine (build_any n nn gm mb w hn Hnn hgm hM).mono ?_
  rintro e w1 ⟨b, gs, go, c, S, rfl, hG1, hS, hb, hgs, hgo, hbel1⟩
  have hml : (ed (mt n mb) n n).length ≤ 89401 := Nat.le_trans (ed_len (mt n mb) n n) (nn_le hn)
  have c0 : w1.cell? ⟨b, 0, none⟩ = some (.slice (some ⟨gs, 0, none⟩) (n + 1) (n + 1)) := hG1.box.cell 0
  have hbl := hG1.box.lt
  have hsl := hG1.st.lt
  have hol := hG1.out.lt
  have hs1 := hbel1.size
  go_wp2_with fail
  refine (clone_any gs (n + 1) (n + 1) _ _ hG1.st (nv_one _ _) (by omega)).mono ?_
  rintro e w2 ⟨gA, cA, rfl, hA2, hgA, hbel2⟩
  have hG2 := hG1.below hbel2 hbl hsl hol
  have c1 : w2.cell? ⟨b, 1, none⟩ = some (.slice (some ⟨go, 0, none⟩) (ed (mt n mb) n n).length c) := hG2.box.cell 1
  have hs2 := hbel2.size
  have hal := hA2.lt
  clear c0
  go_wp2_with fail
  refine (clone_any go (ed (mt n mb) n n).length c _ _ hG2.out (nv_one _ _) (by omega)).mono ?_
  rintro e w3 ⟨gB, cB, rfl, hB3, hgB, hbel3⟩
  have hG3 := hG2.below hbel3 (by omega) (by omega) (by omega)
  have hA3 := hA2.below hbel3 hal
  have hs3 := hbel3.size
  have hbl3 := hB3.lt
  have hbel03 : Below w.heap.size w w3 := hbel1.trans ((hbel2.mono hs1).trans (hbel3.mono (by omega)))
  clear c1 hG1 hG2 hA2 hbel1 hbel2 hbel3
  go_wp2_with fail
  refine (transposed_any b gs go n c (mt n mb) S w3 hn hG3 hS).mono ?_
  rintro e w4 ⟨b2, gs2, go2, S2, rfl, hT4, hS2, hb2, hgs2, hgo2, hbel4⟩
  have hs4 := hbel4.size
  have hK4 : Kept w4 b gs go n (ed (mt n mb) n n).length c gA cA gB cB b2 gs2 go2 S ((ed (mt n mb) n n).map Prod.snd) :=
    ⟨hG3.below hbel4 (by omega) (by omega) (by omega), hA3.below hbel4 (by omega), hB3.below hbel4 (by omega), hT4.box⟩
  have hbel04 : Below w.heap.size w w4 := hbel03.trans (hbel4.mono (by omega))
  have hM4 := hM.below hbel04 hgm
  have hd1 : go2 ≠ b ∧ go2 ≠ gs ∧ go2 ≠ go ∧ go2 ≠ gA ∧ go2 ≠ gB ∧ go2 ≠ b2 := ⟨by omega, by omega, by omega, by omega, by omega, hT4.d3⟩
  have hd2 : gs2 ≠ b ∧ gs2 ≠ gs ∧ gs2 ≠ go ∧ gs2 ≠ gA ∧ gs2 ≠ gB ∧ gs2 ≠ b2 := ⟨by omega, by omega, by omega, by omega, by omega, hT4.d2⟩
  have hd3 := hT4.d1
  have htb := hT4.box.lt
  have htso := hT4.st.lt
  have hto := hT4.out.lt
  have hts := hT4.st
  have htou := hT4.out
  clear hG3 hA3 hB3 hbel03 hbel4 hT4
  have hgo2' : w.heap.size ≤ go2 := by omega
  have hgs2' : w.heap.size ≤ gs2 := by omega
  clear hb2 hgs2 hgo2 hs4 hs3 hs2 hs1 hgA hgB hbl hsl hol hal hbl3 hb hgs hgo
  go_wp2_with (at_make; refine wpList_make_arr rfl _ _ 33 rfl 3 i0 (.int .i64 0) 8 Yba.underlying33 hi hz0 hz1 hz2 rfl _ _ _ _ (n + 1) rfl rfl ?m0 ?m1 ?m2 ?m3 ?_)
  case m0 => omega
  case m1 => omega
  case m2 => omega
  case m3 => unfold maxLen; omega
  intro w5 hW5 hg5
  have hb5 : Below w4.heap.size w4 w5 := (Below.refl _ _).grown hg5 (Nat.le_refl _) (fun k hk => by cases hk)
  have hl5 := hW5.lt
  rw [nv_zero] at hW5
  have hE6 := Arr.empty w5 3
  have hW6 := hW5.alloc (.cells #[] 3)
  have hb6 : Below w4.heap.size w4 (w5.alloc (.cells #[] 3)) := hb5.alloc (by omega) _
  clear hg5 hb5 hW5
  go_wp2_with fail
  generalize w5.alloc (.cells #[] 3) = w6 at *
  obtain ⟨gW, hgW⟩ : ∃ gW, gW = w4.heap.size := ⟨_, rfl⟩
  obtain ⟨gO0, hgO0⟩ : ∃ gO0, gO0 = w5.heap.size := ⟨_, rfl⟩
  have hWO : gW < gO0 := by omega
  rw [← hgO0] at hE6
  rw [← hgW] at hW6
  rw [← hgO0, ← hgW]
  have hgW' : w4.heap.size ≤ gW := by omega
  have hgO' : w4.heap.size ≤ gO0 := by omega
  clear hgW hgO0 hl5
  go_loopw [10, 11] (fun v j wr => ∃ (h gO co : Nat) (W : List Nat), h ≤ n ∧ j = .int .i64 (h : Nat) ∧ v = .slice (some ⟨gO, 0, none⟩) (fc (mt n mb) n h).length co ∧ Arr wr gO 3 (fc (mt n mb) n h).length co (nv .i64 (fc (mt n mb) n h)) ∧ Arr wr gW 3 (n + 1) (n + 1) (nv .i64 W) ∧ Wst (mt n mb) n h W ∧ gW < gO ∧ Below w4.heap.size w4 wr) (fun _ j _ => n - (intOf j).toNat)
  case atStart => exact ⟨0, gO0, 0, _, Nat.zero_le _, rfl, rfl, hE6, hW6, ⟨by simp, fun x hx => (by
    obtain rfl : x = 0 := (by omega)
    simp [List.getD, flat])⟩, hWO, hb6⟩
  case round =>
    clear hE6 hW6 hWO hb6 hgO'
    obtain ⟨h, gO, co, W, hh, rfl, rfl, hO, hW, hWst, hWO, hb6⟩ := hrel
    by_cases hlt : h < n
    · go_wp2_with fail
      go_loopw [10, 12] (fun v j wr => ∃ (k gO co : Nat), k ≤ n ∧ j = .int .i64 (k : Nat) ∧ v = .slice (some ⟨gO, 0, none⟩) (fc (mt n mb) n h ++ colTo (mt n mb) h k).length co ∧ Arr wr gO 3 (fc (mt n mb) n h ++ colTo (mt n mb) h k).length co (nv .i64 (fc (mt n mb) n h ++ colTo (mt n mb) h k)) ∧ Arr wr gW 3 (n + 1) (n + 1) (nv .i64 W) ∧ gW < gO ∧ Below w4.heap.size w4 wr) (fun _ j _ => n - (intOf j).toNat)
      case atStart => exact ⟨0, gO, co, Nat.zero_le _, rfl, by simp [colTo], by simpa [colTo] using hO, hW, hWO, hb6⟩
      case round =>
        clear hO hW hWO hb6
        obtain ⟨k, gO, co, hk, rfl, rfl, hO, hW, hWO, hb6⟩ := hrel
        by_cases hlk : k < n
        · have hpb : k * n + h < nn := by rw [Hnn.out]; exact idx_lt hlk hlt
          have hmat := (hM4.below hb6 (by have := hbel04.size; omega)).bool (k * n + h) hpb
          have hel : (fc (mt n mb) n h ++ colTo (mt n mb) h k).length ≤ nn := by
            have h1 := flat_col_len (mt n mb) n h
            have h2 := colTo_len (mt n mb) h k
            have h3 := Nat.mul_le_mul_right n (show h + 1 ≤ n from hlt)
            rw [Nat.succ_mul] at h3
            rw [List.length_append, Hnn.out]
            unfold fc
            omega
          have hmt : Hid (mb.getD (k * n + h) false = mt n mb k h) := rfl
          rw [hmt.out] at hmat
          have hpI : (k : Int) * (n : Int) = ((k * n : Nat) : Int) := by simp
          have hcol : Hid (colTo (mt n mb) h (k + 1) = colTo (mt n mb) h k ++ (if mt n mb k h then [k] else [])) := rfl
          generalize k * n = p at *
          cases hv : mt n mb k h
          · rw [hv] at hmat
            have HE : Hid (fc (mt n mb) n h ++ colTo (mt n mb) h (k + 1) = fc (mt n mb) n h ++ colTo (mt n mb) h k) := by
              have := hcol.out
              rw [hv] at this
              show _ = _
              rw [this]; simp
            clear hcol hmt
            go_wp2
            go_roundw
            case rel => exact ⟨k + 1, gO, co, by omega, by go_num, by rw [HE.out], by rw [HE.out]; exact hO, hW, hWO, hb6⟩
            case measure => simp [intOf]; omega
          · rw [hv] at hmat
            have HE : Hid (fc (mt n mb) n h ++ colTo (mt n mb) h (k + 1) = (fc (mt n mb) n h ++ colTo (mt n mb) h k) ++ [k]) := by
              have := hcol.out
              rw [hv] at this
              show _ = _
              rw [this]; simp
            clear hcol hmt
            have hwh : IntKind.i64.wrap (k : Int) = (k : Int) := IntWalk.i64_in _ (by omega)
            generalize fc (mt n mb) n h ++ colTo (mt n mb) h k = E at *
            go_wp2_with (at_builtin; refine wpList_append_arr rfl (.tmp 55) (.tmp 57) 33 rfl 3 i0 (.int .i64 0) 8 Yba.underlying33 hi hz0 hz1 hz2 rfl gO E.length co (nv .i64 E) rfl hO rfl rfl ?c1 ?c2 ?_)
            case c1 => unfold maxLen; omega
            case c2 => omega
            intro g' c' w' ha' hg' hn'
            have hW' := hW.grown hg' (by intro e; have := Option.some.inj e; omega)
            have hb6' := hb6.grown hg' hb6.size (fun k hk => by cases hk; omega)
            have hWl := hW.lt
            have hWO' : gW < g' := by rcases hn' with hn' | hn' <;> omega
            rw [nv_app] at ha'
            clear hO hW hb6 hg' hn'
            go_wp2
            go_roundw
            case rel =>
              refine ⟨k + 1, g', c', by omega, by go_num, ?_, ?_, hW', hWO', hb6'⟩
              · rw [HE.out, List.length_append]; rfl
              · rw [HE.out, List.length_append]; exact ha'
            case measure => simp [intOf]; omega
        · obtain rfl : k = n := by omega
          rw [← fc_succ] at hO
          have hfl : (fc (mt k mb) k (h + 1)).length ≤ nn := by
            have h1 := flat_col_len (mt k mb) k (h + 1)
            have h3 := Nat.mul_le_mul_right k (show h + 1 ≤ k from hlt)
            rw [Hnn.out]
            unfold fc
            omega
          have HS : Hid (fc (mt k mb) k h ++ colTo (mt k mb) h k = fc (mt k mb) k (h + 1)) := rfl
          rw [HS.out]
          have e1 := hW.nat (h + 1) (by omega)
          have f1 := hW.fr (h + 1)
          have hwm : IntKind.i64.wrap (((fc (mt k mb) k (h + 1)).length : Nat) : Int) = (((fc (mt k mb) k (h + 1)).length : Nat) : Int) := IntWalk.i64_in _ (by omega)
          have hWst' : Wst (mt k mb) k (h + 1) (W.set (h + 1) (fc (mt k mb) k (h + 1)).length) := by
            refine ⟨by simp [hWst.1], fun x hx => ?_⟩
            by_cases e : x = h + 1
            · subst e; exact getD_set_same _ _ _ _ (by rw [hWst.1]; omega)
            · rw [getD_set_other _ _ _ _ _ (by omega)]; exact hWst.2 x (by omega)
          have hW' := hW.setNat (h + 1) (fc (mt k mb) k (h + 1)).length
          have hO' := hO.other gW (h + 1) (.int .i64 (((fc (mt k mb) k (h + 1)).length : Nat) : Int)) (by omega)
          have hb6' : Below w4.heap.size w4 (wr.setCell ⟨gW, h + 1, none⟩ (.int .i64 (((fc (mt k mb) k (h + 1)).length : Nat) : Int))) := hb6.setCell (p := ⟨gW, h + 1, none⟩) hgW' _
          have hk1 : (h : Int) + 1 < ((k : Int) + 1) := by omega
          clear hW hO hb6
          go_wp2
          go_roundw
          case rel => exact ⟨h + 1, gO, co, _, by omega, by go_num, rfl, hO', hW', hWst', hWO, hb6'⟩
          case measure => simp [intOf]; omega
    · obtain rfl : h = n := by omega
      have hTf : flat (bk (ed (mt h mb) h h)) h = fc (mt h mb) h h := flat_col (mt h mb) h h (Nat.le_refl _)
      have hml2 : (fc (mt h mb) h h).length = (ed (mt h mb) h h).length := by
        rw [← hTf, flat_bk_len]
        exact tot_all h _ _ rfl (fun e he => (ed_lt (mt h mb) h h e he).2)
      have hSW : W = S2 := by
        have hl2 := hts.len
        rw [nv_len] at hl2
        refine list_eq_getD (by rw [hWst.1, hl2]) (fun x hx => ?_)
        rw [hWst.1] at hx
        rw [hWst.2 x (by omega), hS2 x (by omega), ← flat_bk_len, flat_col (mt h mb) h x (by omega)]
      rw [hSW] at hW
      rw [hml2] at hO ⊢
      rw [hTf] at htou
      have hF : Fin_ wr b gs go h (ed (mt h mb) h h).length c gA cA gB cB b2 gs2 go2 gW gO co S ((ed (mt h mb) h h).map Prod.snd) S2 (fc (mt h mb) h h) :=
        ⟨hK4.blk (fun x hx => hb6.block x (by
          have q1 := hK4.g.box.lt
          have q2 := hK4.g.st.lt
          have q3 := hK4.g.out.lt
          have q4 := hK4.a.lt
          have q5 := hK4.o.lt
          have q6 := hK4.box.lt
          rcases hx with rfl | rfl | rfl | rfl | rfl | rfl <;> assumption)), hts.below hb6 htso, htou.below hb6 hto, hW, hO⟩
      have hbw : Below w.heap.size w wr := hbel04.trans (hb6.mono hbel04.size)
      clear hTf hml2 hSW hW hO htou hts hb6 hK4 hbel04 hM4 hM hS2 hS hWst hWO hgW' htb htso hto
      generalize (ed (mt h mb) h h).length = m at *
      generalize (ed (mt h mb) h h).map Prod.snd = O at *
      generalize fc (mt h mb) h h = T at *
      obtain ⟨x0, x1, x2, x3⟩ := hF.k.cells
      go_wp2_with fail
      refine (equal_any gs2 gW (h + 1) (h + 1) (h + 1) S2 wr (by omega) hF.ts hF.ws).mono ?_
      rintro e w8 ⟨rfl, q1, rfl⟩
      go_wp2_with fail
      have hF8 := hF.drewN q1
      have hbw8 := below_drewN hbw q1
      generalize wr.drewN q1 = w8 at *
      refine (equal_any go2 gO m m co T w8 (by omega) hF8.tou hF8.wo).mono ?_
      rintro e w9 ⟨rfl, q2, rfl⟩
      clear x0 x1 x2 x3 hF hbw
      have hF9 := hF8.drewN q2
      have hbw9 := below_drewN hbw8 q2
      generalize w8.drewN q2 = w9 at *
      obtain ⟨x0, x1, x2, x3⟩ := hF9.k.cells
      go_wp2_with fail
      refine (equal_any gs gA (h + 1) (h + 1) cA S w9 (by omega) hF9.k.g.st hF9.k.a).mono ?_
      rintro e w10 ⟨rfl, q3, rfl⟩
      clear x0 x1 x2 x3 hF8 hbw8
      have hF10 := hF9.drewN q3
      have hbw10 := below_drewN hbw9 q3
      generalize w9.drewN q3 = w10 at *
      obtain ⟨x0, x1, x2, x3⟩ := hF10.k.cells
      go_wp2_with fail
      refine (equal_any go gB m c cB O w10 (by omega) hF10.k.g.out hF10.k.o).mono ?_
      rintro e w11 ⟨rfl, q4, rfl⟩
      clear x0 x1 x2 x3 hF9 hbw9
      have hF11 := hF10.drewN q4
      have hbw11 := below_drewN hbw10 q4
      generalize w10.drewN q4 = w11 at *
      obtain ⟨x0, x1, x2, x3⟩ := hF11.k.cells
      go_wp2_with fail
      go_loopw [102] (fun j wr => ∃ (i : Nat) (xs : List Value), i ≤ m ∧ j = .int .i64 (i : Nat) ∧ Kept wr b gs go h m c gA cA gB cB b2 gs2 go2 S O ∧ Arr wr go2 3 m m xs ∧ Arr wr gs2 3 (h + 1) (h + 1) (nv .i64 S2) ∧ Below w.heap.size w wr) (fun j _ => m - (intOf j).toNat)
      case atStart => exact ⟨0, _, Nat.zero_le _, rfl, hF11.k, hF11.tou, hF11.ts, hbw11⟩
      case round =>
        clear x0 x1 x2 x3 hF11 hbw11 hF10 hbw10
        obtain ⟨i, xs, hi', rfl, hK, hX, hY, hbw⟩ := hrel
        obtain ⟨x0, x1, x2, x3⟩ := hK.cells
        by_cases hlti : i < m
        · have hxl := hX.len
          obtain ⟨old, hold⟩ : ∃ old, wr.cell? ⟨go2, i, none⟩ = some old := ⟨_, (hX.cell i hlti).trans (List.getElem?_eq_getElem (by omega))⟩
          have hfr := hX.fr i
          have hK' := hK.set go2 i (.int .i64 (-1)) hd1
          have hX' := hX.set i (.int .i64 (-1))
          have hY' := hY.other go2 i (.int .i64 (-1)) hd3
          have hbw' : Below w.heap.size w (wr.setCell ⟨go2, i, none⟩ (.int .i64 (-1))) := hbw.setCell (p := ⟨go2, i, none⟩) hgo2' _
          clear hK hX hY hbw
          go_wp2
          go_roundw
          case rel => exact ⟨i + 1, _, by omega, by go_num, hK', hX', hY', hbw'⟩
          case measure => simp [intOf]; omega
        · clear hX
          go_wp2_with fail
          go_loopw [117] (fun j wr => ∃ (i : Nat) (xs : List Value), i ≤ h + 1 ∧ j = .int .i64 (i : Nat) ∧ Kept wr b gs go h m c gA cA gB cB b2 gs2 go2 S O ∧ Arr wr gs2 3 (h + 1) (h + 1) xs ∧ Below w.heap.size w wr) (fun j _ => h + 1 - (intOf j).toNat)
          case atStart => exact ⟨0, _, Nat.zero_le _, rfl, hK, hY, hbw⟩
          case round =>
            clear x0 x1 x2 x3 hK hY hbw
            obtain ⟨i2, xs, hi2, rfl, hK, hX, hbw⟩ := hrel
            obtain ⟨x0, x1, x2, x3⟩ := hK.cells
            by_cases hlt2 : i2 < h + 1
            · have hxl := hX.len
              obtain ⟨old, hold⟩ : ∃ old, wr.cell? ⟨gs2, i2, none⟩ = some old := ⟨_, (hX.cell i2 hlt2).trans (List.getElem?_eq_getElem (by omega))⟩
              have hfr := hX.fr i2
              have hK' := hK.set gs2 i2 (.int .i64 (-1)) hd2
              have hX' := hX.set i2 (.int .i64 (-1))
              have hbw' : Below w.heap.size w (wr.setCell ⟨gs2, i2, none⟩ (.int .i64 (-1))) := hbw.setCell (p := ⟨gs2, i2, none⟩) hgs2' _
              have hi2i : (i2 : Int) < (h : Int) + 1 := by omega
              clear hK hX hbw
              go_wp2
              go_roundw
              case rel => exact ⟨i2 + 1, _, by omega, by go_num, hK', hX', hbw'⟩
              case measure => simp [intOf]; omega
            · clear hX
              have hi2i : ¬ (i2 : Int) < (h : Int) + 1 := by omega
              go_wp2_with fail
              refine (equal_any gs gA (h + 1) (h + 1) cA S wr (by omega) hK.g.st hK.a).mono ?_
              rintro e w12 ⟨rfl, q5, rfl⟩
              go_wp2_with fail
              have hK12 := hK.drewN q5
              have hbw12 := below_drewN hbw q5
              generalize wr.drewN q5 = w12 at *
              refine (equal_any go gB m c cB O w12 (by omega) hK12.g.out hK12.o).mono ?_
              rintro e w13 ⟨rfl, q6, rfl⟩
              go_wp2
              go_ret
              exact ⟨rfl, below_drewN hbw12 q6⟩
end Go.Proofs.Ybulkekys.I
