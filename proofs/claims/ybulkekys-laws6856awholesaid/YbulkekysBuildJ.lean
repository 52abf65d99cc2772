import Derived.Test.YbulkekysLibJ
import Derived.Deep.Cut
import Derived.Deep.DeepCutAuto
import Derived.StillTailTactics
namespace Go.Proofs.Ybulkekys.J
open Go.RowKit

theorem mixed : Yba.prog.follows .mixedOrders = true := by kernel_rfl

/-- A graph in memory: its box b, its rows gs (starts) and go (edges' ends). -/
structure G (w : World) (b gs go n m c : Nat) (S O : List Nat) : Prop where
  box : Box w b 76 #[.slice (some ⟨gs, 0, none⟩) (n + 1) (n + 1), .slice (some ⟨go, 0, none⟩) m c]
  st : Arr w gs 21 (n + 1) (n + 1) (nv .i32 S)
  out : Arr w go 21 m c (nv .i32 O)
  d1 : gs ≠ go
  d2 : gs ≠ b
  d3 : go ≠ b

theorem G.blk {w w' : World} {b gs go n m c : Nat} {S O : List Nat} (h : G w b gs go n m c S O) (hb : w'.heap[b]? = w.heap[b]?) (hs : w'.heap[gs]? = w.heap[gs]?) (ho : w'.heap[go]? = w.heap[go]?) : G w' b gs go n m c S O :=
  ⟨h.box.blk hb, h.st.blk hs, h.out.blk ho, h.d1, h.d2, h.d3⟩
theorem G.below {w w' : World} {b gs go n m c B : Nat} {S O : List Nat} (h : G w b gs go n m c S O) (hb : Below B w w') (h1 : b < B) (h2 : gs < B) (h3 : go < B) : G w' b gs go n m c S O :=
  h.blk (hb.block b h1) (hb.block gs h2) (hb.block go h3)
theorem G.mlen {w : World} {b gs go n m c : Nat} {S O : List Nat} (h : G w b gs go n m c S O) : O.length = m := by have := h.out.len; rwa [nv_len] at this
theorem G.slen {w : World} {b gs go n m c : Nat} {S O : List Nat} (h : G w b gs go n m c S O) : S.length = n + 1 := by have := h.st.len; rwa [nv_len] at this
/-- A new end of an edge. -/
theorem G.push {w w' : World} {b gs go n m c g' c' x : Nat} {S O : List Nat} (h : G w b gs go n m c S O) (ha : Arr w' g' 21 (m + 1) c' (nv .i32 O ++ [.int .i32 (x : Int)])) (hg : w.grownBy w' (some go)) (hn : g' = go ∨ (w.heap.size ≤ g' ∧ g' < w'.heap.size)) :
    G (w'.setCell ⟨b, 1, none⟩ (.slice (some ⟨g', 0, none⟩) (m + 1) c')) b gs g' n (m + 1) c' S (O ++ [x]) := by
  have hbl := h.box.lt
  have hsl := h.st.lt
  have e1 : gs ≠ g' := by rcases hn with hn | hn; · rw [hn]; exact h.d1
                          · omega
  have e3 : g' ≠ b := by rcases hn with hn | hn; · rw [hn]; exact h.d3
                         · omega
  have hb' : Box w' b 76 _ := h.box.blk (hg.block b hbl (fun e => h.d3 (Option.some.inj e).symm))
  have hs' : Arr w' gs 21 _ _ _ := h.st.blk (hg.block gs hsl (fun e => h.d1 (Option.some.inj e)))
  refine ⟨hb'.set 1 _, hs'.other _ _ _ h.d2, ?_, e1, h.d2, e3⟩
  rw [← nv_app]
  exact ha.other _ _ _ e3
theorem G.setS {w : World} {b gs go n m c : Nat} {S O : List Nat} (h : G w b gs go n m c S O) (j x : Nat) : G (w.setCell ⟨gs, j, none⟩ (.int .i32 (x : Int))) b gs go n m c (S.set j x) O :=
  ⟨h.box.blk (Below.heap_setCell _ _ _ _ (by exact fun e => h.d2 e.symm)), h.st.setNat j x, h.out.other _ _ _ (fun e => h.d1 e.symm), h.d1, h.d2, h.d3⟩
theorem G.setO {w : World} {b gs go n m c : Nat} {S O : List Nat} (h : G w b gs go n m c S O) (j x : Nat) : G (w.setCell ⟨go, j, none⟩ (.int .i32 (x : Int))) b gs go n m c S (O.set j x) :=
  ⟨h.box.blk (Below.heap_setCell _ _ _ _ (by exact fun e => h.d3 e.symm)), h.st.other _ _ _ h.d1, h.out.setNat j x, h.d1, h.d2, h.d3⟩

/-- The matrix as a function. -/
def mt (n : Nat) (mb : List Bool) (w h : Nat) : Bool := mb.getD (w * n + h) false
/-- Behind w rows. -/
def Starts (M : Nat → Nat → Bool) (n k : Nat) (S : List Nat) : Prop := ∀ x, x ≤ k → S.getD x 0 = (ed M n x).length

theorem idx_lt {n a b : Nat} (h1 : a < n) (h2 : b < n) : a * n + b < n * n := by
  have := Nat.mul_le_mul_right n (show a + 1 ≤ n from h1)
  rw [Nat.succ_mul] at this
  omega
theorem nn_le {n : Nat} (h : n ≤ 299) : n * n ≤ 89401 := Nat.mul_le_mul h h

set_option maxHeartbeats 2000000 in
set_option maxRecDepth 100000 in
theorem build_any (n nn gm : Nat) (mb : List Bool) (w : World) (hn : n ≤ 299) (Hnn : Hid (nn = n * n)) (hgm : gm < w.heap.size) (hM : Arr w gm 4 nn nn (bv mb)) :
    Calls Yba.prog 14 #[.int .i64 (n : Int), .slice (some ⟨gm, 0, none⟩) nn nn] w fun e w' =>
      ∃ b gs go c S, e = .returned (.pointer (some ⟨b, 0, none⟩)) ∧ G w' b gs go n (ed (mt n mb) n n).length c S ((ed (mt n mb) n n).map Prod.snd) ∧ Starts (mt n mb) n n S ∧
        w.heap.size ≤ b ∧ w.heap.size ≤ gs ∧ w.heap.size ≤ go ∧ Below w.heap.size w w' := by
  obtain ⟨i0, hi, hz0, hz1, hz2⟩ := info_parts infoE
  have hnn : nn ≤ 89401 := by rw [Hnn.out]; exact nn_le hn
  go_enter Yba.func14, Yba.ntmps14
  go_wp2_with (at_make; refine wpList_make_arr rfl _ _ 73 rfl 21 i0 (.int .i32 0) 4 Yba.underlying73 hi hz0 hz1 hz2 rfl _ _ _ _ (n + 1) rfl rfl ?m0 ?m1 ?m2 ?m3 ?_)
  case m0 => omega
  case m1 => omega
  case m2 => omega
  case m3 => unfold maxLen; omega
  intro w1 hA1 hg1
  have hb1 : Below w.heap.size w w1 := (Below.refl _ _).grown hg1 (Nat.le_refl _) (fun k hk => by cases hk)
  have hlt1 := hA1.lt
  rw [nv_zero] at hA1
  have hG2 : G ((w1.alloc (.cells #[] 21)).alloc (.cells #[.slice (some ⟨w.heap.size, 0, none⟩) (n + 1) (n + 1), .slice (some ⟨w1.heap.size, 0, none⟩) 0 0] 76)) (w1.heap.size + 1) w.heap.size w1.heap.size n 0 0 (List.replicate (n + 1) 0) [] :=
    ⟨by have := heap_alloc_new (w1.alloc (.cells #[] 21)) (.cells #[.slice (some ⟨w.heap.size, 0, none⟩) (n + 1) (n + 1), .slice (some ⟨w1.heap.size, 0, none⟩) 0 0] 76); rw [World.size_alloc] at this; exact this,
     (hA1.alloc _).alloc _, (Arr.empty w1 21).alloc _, by omega, by omega, by omega⟩
  have hb2 : Below w.heap.size w ((w1.alloc (.cells #[] 21)).alloc (.cells #[.slice (some ⟨w.heap.size, 0, none⟩) (n + 1) (n + 1), .slice (some ⟨w1.heap.size, 0, none⟩) 0 0] 76)) := (hb1.alloc (by omega) _).alloc (by simp; omega) _
  have hS2 : Starts (mt n mb) n 0 (List.replicate (n + 1) 0) := fun x hx => (by
    obtain rfl : x = 0 := (by omega)
    simp [List.getD, ed, flat])
  clear hA1 hg1 hb1
  go_wp2_with fail
  generalize ((w1.alloc (.cells #[] 21)).alloc (.cells #[.slice (some ⟨w.heap.size, 0, none⟩) (n + 1) (n + 1), .slice (some ⟨w1.heap.size, 0, none⟩) 0 0] 76)) = w2 at *
  obtain ⟨gs, hgs⟩ : ∃ gs, gs = w.heap.size := ⟨_, rfl⟩
  have hgs' : w.heap.size ≤ gs := by omega
  obtain ⟨b, hb⟩ : ∃ b, b = w1.heap.size + 1 := ⟨_, rfl⟩
  have hbw : w.heap.size ≤ b := by omega
  obtain ⟨go0, hgo0⟩ : ∃ go0, go0 = w1.heap.size := ⟨_, rfl⟩
  have hgow : w.heap.size ≤ go0 := by omega
  rw [← hb, ← hgo0] at hG2
  rw [← hgs] at hG2
  rw [← hb, ← hgo0]
  go_loopw [6] (fun j wr => ∃ k go c S, k ≤ n ∧ j = .int .i64 (k : Nat) ∧ G wr b gs go n (ed (mt n mb) n k).length c S ((ed (mt n mb) n k).map Prod.snd) ∧ Starts (mt n mb) n k S ∧ w.heap.size ≤ go ∧ Below w.heap.size w wr) (fun j _ => n - (intOf j).toNat)
  case atStart => exact ⟨0, go0, 0, _, Nat.zero_le _, rfl, hG2, hS2, hgow, hb2⟩
  case round =>
    clear hG2 hS2 hb2 hgow hgo0 hlt1 hb hgs
    obtain ⟨k, go, c, S, hk, rfl, hG, hS, hgo, hbel⟩ := hrel
    by_cases hlt : k < n
    · go_wp2_with fail
      go_loopw [7] (fun j wr => ∃ h go c, h ≤ n ∧ j = .int .i64 (h : Nat) ∧ G wr b gs go n (ed (mt n mb) n k ++ rowTo (mt n mb) k h).length c S ((ed (mt n mb) n k ++ rowTo (mt n mb) k h).map Prod.snd) ∧ w.heap.size ≤ go ∧ Below w.heap.size w wr) (fun j _ => n - (intOf j).toNat)
      case atStart => exact ⟨0, go, c, Nat.zero_le _, rfl, by simpa [rowTo] using hG, hgo, hbel⟩
      case round =>
        clear hG hgo hbel
        obtain ⟨h, go, c, hh, rfl, hG, hgo, hbel⟩ := hrel
        by_cases hlh : h < n
        · have hmat := (hM.below hbel hgm).bool (k * n + h) (by rw [Hnn.out]; exact idx_lt hlt hlh)
          have hpb : k * n + h < nn := by rw [Hnn.out]; exact idx_lt hlt hlh
          have hel : (ed (mt n mb) n k ++ rowTo (mt n mb) k h).length ≤ nn := by
            have h1 := ed_len (mt n mb) n k
            have h2 := rowTo_len (mt n mb) k h
            rw [List.length_append]; omega
          have hmt : Hid (mb.getD (k * n + h) false = mt n mb k h) := rfl
          rw [hmt.out] at hmat
          have hpI : (k : Int) * (n : Int) = ((k * n : Nat) : Int) := by simp
          have hrow : Hid (rowTo (mt n mb) k (h + 1) = rowTo (mt n mb) k h ++ (if mt n mb k h then [(k, h)] else [])) := rfl
          generalize k * n = p at *
          have c1 : wr.cell? ⟨b, 1, none⟩ = some (.slice (some ⟨go, 0, none⟩) (ed (mt n mb) n k ++ rowTo (mt n mb) k h).length c) := hG.box.cell 1
          have f1 := hG.box.fr 1
          have hblt := hG.box.lt
          cases hv : mt n mb k h
          · rw [hv] at hmat
            have HE : Hid (ed (mt n mb) n k ++ rowTo (mt n mb) k (h + 1) = ed (mt n mb) n k ++ rowTo (mt n mb) k h) := by
              have := hrow.out
              rw [hv] at this
              show _ = _
              rw [this]; simp
            clear hrow hmt
            go_wp2
            go_roundw
            case rel => exact ⟨h + 1, go, c, by omega, by go_num, by rw [HE.out]; exact hG, hgo, hbel⟩
            case measure => simp [intOf]; omega
          · rw [hv] at hmat
            have HE : Hid (ed (mt n mb) n k ++ rowTo (mt n mb) k (h + 1) = (ed (mt n mb) n k ++ rowTo (mt n mb) k h) ++ [(k, h)]) := by
              have := hrow.out
              rw [hv] at this
              show _ = _
              rw [this]; simp
            clear hrow hmt
            have hwh : IntKind.i32.wrap (h : Int) = (h : Int) := IntWalk.i32_in _ (by omega)
            generalize ed (mt n mb) n k ++ rowTo (mt n mb) k h = E at *
            have hout := hG.out
            go_wp2_with (at_builtin; refine wpList_append_arr rfl (.tmp 36) (.tmp 39) 73 rfl 21 i0 (.int .i32 0) 4 Yba.underlying73 hi hz0 hz1 hz2 rfl go E.length c (nv .i32 (E.map Prod.snd)) rfl hout rfl rfl ?c1 ?c2 ?_)
            case c1 => unfold maxLen; omega
            case c2 => omega
            intro g' c' w' ha' hg' hn'
            have hbox' : Box w' b 76 _ := hG.box.blk (hg'.block b hblt (fun e => hG.d3 (Option.some.inj e).symm))
            obtain ⟨old, hold⟩ : ∃ old, w'.cell? ⟨b, 1, none⟩ = some old := ⟨_, hbox'.cell 1⟩
            have hfr' := hbox'.fr 1
            have hG' := hG.push (x := h) ha' hg' hn'
            have hbel' : Below w.heap.size w (w'.setCell ⟨b, 1, none⟩ (.slice (some ⟨g', 0, none⟩) (E.length + 1) c')) := (hbel.grown hg' hbel.size (fun k hk => by cases hk; exact hgo)).setCell (p := ⟨b, 1, none⟩) hbw _
            have hgo' : w.heap.size ≤ g' := by
              have := hbel.size
              rcases hn' with hn' | hn' <;> omega
            clear ha' hg' hn' hout hG hbox' c1 f1 hbel
            go_wp2
            go_roundw
            case rel =>
              refine ⟨h + 1, g', c', by omega, by go_num, ?_, hgo', hbel'⟩
              rw [HE.out, List.length_append, List.map_append]
              exact hG'
            case measure => simp [intOf]; omega
        · obtain rfl : h = n := by omega
          have HE : Hid (ed (mt h mb) h (k + 1) = ed (mt h mb) h k ++ rowTo (mt h mb) k h) := rfl
          have hel : (ed (mt h mb) h (k + 1)).length ≤ nn := by
            have h1 := ed_len (mt h mb) h (k + 1)
            have h2 := Nat.mul_le_mul_right h (show k + 1 ≤ h from hlt)
            rw [Hnn.out]; omega
          rw [← HE.out] at hG
          have c0 : wr.cell? ⟨b, 0, none⟩ = some (.slice (some ⟨gs, 0, none⟩) (h + 1) (h + 1)) := hG.box.cell 0
          have c1 : wr.cell? ⟨b, 1, none⟩ = some (.slice (some ⟨go, 0, none⟩) (ed (mt h mb) h (k + 1)).length c) := hG.box.cell 1
          have hS' : Starts (mt h mb) h (k + 1) (S.set (k + 1) (ed (mt h mb) h (k + 1)).length) := by
            intro x hx
            by_cases e : x = k + 1
            · subst e; exact getD_set_same _ _ _ _ (by rw [hG.slen]; omega)
            · rw [getD_set_other _ _ _ _ _ (by omega)]; exact hS x (by omega)
          have hG' := (hG.blk (w' := wr.drew) rfl rfl rfl).setS (k + 1) (ed (mt h mb) h (k + 1)).length
          have hbel' : Below w.heap.size w (wr.drew.setCell ⟨gs, k + 1, none⟩ (.int .i32 (((ed (mt h mb) h (k + 1)).length : Nat) : Int))) := (hbel.drew).setCell (p := ⟨gs, k + 1, none⟩) hgs' _
          have hst := hG.st.nat (k + 1) (by omega)
          have hfr := hG.st.fr (k + 1)
          have hwk : IntKind.i64.wrap ((k : Int) + 1) = (k : Int) + 1 := IntWalk.i64_in _ (by omega)
          have hwm : IntKind.i32.wrap (((ed (mt h mb) h (k + 1)).length : Nat) : Int) = (((ed (mt h mb) h (k + 1)).length : Nat) : Int) := IntWalk.i32_in _ (by omega)
          have hk1 : (k : Int) + 1 < ((h : Int) + 1) := by omega
          have hk2 : k + 1 < h + 1 := by omega
          have hk3 : (0 : Int) ≤ (k : Int) + 1 := by omega
          clear hG hbel hS
          go_upto_region 10 with (fail)
          refine wp_region_still_tail 13 mixed (by kernel_rfl) ?_
          simp only [List.take_succ_cons, List.take_zero, List.drop_succ_cons, List.drop_zero]
          repeat still_step
          refine wpStill_nil ?_
          go_wp2
          go_roundw
          case rel => exact ⟨k + 1, go, c, _, by omega, by go_num, hG', hS', hgo, hbel'⟩
          case measure => simp [intOf]; omega
    · go_wp2
      go_ret
      obtain rfl : k = n := by omega
      exact ⟨b, gs, go, c, S, rfl, hG, hS, hbw, hgs', hgo, hbel⟩
end Go.Proofs.Ybulkekys.J
