import Derived.Test.YbulkekysMk
import Derived.Deep.RegionLaw
import Derived.Deep.AppendLies
namespace Go.Proofs.Ybulkekys
open Go.RowKit

/-- 'out = append(out, x)', x one cell that the walk has just laid in a block of its own, out nil or the call's own row. -/
theorem wpList_append_one {P : Program} {w : World} {x : Value} {ops : Array Oper} {rest : List Oper} {o : Oper} {a : Act} {Q : Exit → Act → World → Prop} (hgd : o.guard = none) (s y : Operand) (t : TypeId)
    (ho : o.op = .call { callee := .builtin .append, args := #[s, y], argTypes := #[t, t] })
    (base : Nat) (e : TypeId) (i : TypeInfo) (z : Value) (bytes : Nat) (ht : P.underlying t = some (.slice e)) (hi : P.info? e = some i) (hz : i.zero = some z)
    (hsize : i.size = 1) (hby : i.bytes = bytes) (hzs : z.cells.size = 1)
    (v : Value) (n : Nat) (xs : List Value) (hs : a.eval s = v) (hown : w.ownsRow base e 1 v n xs)
    (hx : a.eval y = .slice (some ⟨w.heap.size, 0, none⟩) 1 1) (h1 : x.oneCell' = true)
    (h63 : n + 1 ≤ maxLen) (hbytes : (n + 1) * bytes ≤ 140737488355328) (hbase : base ≤ w.heap.size)
    (h : ∀ v' w', w'.ownsRow base e 1 v' (n + 1) (xs ++ [x]) → w.grownBy w' v.ownBlock → wpList P ops Q rest (a.put o.dst v') w') : wpList P ops Q (o :: rest) a (w.alloc (.cells #[x] e)) := by
  refine wpList_append_own _ hgd s y t ho base e i z 1 bytes ht hi hz hsize hby hzs (by decide) v n xs hs (hown.alloc _) ⟨w.heap.size, 0, none⟩ 1 1 [x] hx (by simp) ?_ ?_ h63 hbytes (by simp; omega) ?_
  · intro j u hj
    match j, hj with
    | 0, hj => simp at hj; subst hj; simp [Addr.add]
  · intro u hu
    simp at hu
    subst hu
    exact h1
  · intro v' w' h2 h3 _
    exact h v' w' h2 (grownBy_of_alloc h3)

theorem lkTo_grow (E : Nat → Bool) (p : Nat) (O : List Nat) (inn : Nat → List (Int × Int)) (h : Nat) : ∀ k, ((lkTo E p O inn k).1 h).length ≤ (inn h).length + k
  | 0 => Nat.le_refl _
  | k + 1 => by
    have ih := lkTo_grow E p O inn h k
    simp only [lkTo]
    split <;> dsimp only
    · omega
    · by_cases e : h = O.getD k 0
      · rw [e, upd_same, List.length_append, ← e]
        simp only [List.length_cons, List.length_nil]
        omega
      · rw [upd_other _ _ _ _ e]; omega

theorem row_form {w : World} {e size n : Nat} {v : Value} {xs : List Value} (h : w.ownsRow 0 e size v n xs) : ∃ a c, v = .slice a n c := by
  rcases h.2 with ⟨h1, h2⟩ | ⟨g, c, cur, h1, _⟩
  · exact ⟨none, 0, by rw [h1, h2]⟩
  · exact ⟨_, c, h1⟩
theorem icells_app (l : List Int) (x : Int) : icells l ++ [.int .i64 x] = icells (l ++ [x]) := by simp [icells]
theorem row_mono {w : World} {base e size n : Nat} {v : Value} {xs : List Value} (h : w.ownsRow base e size v n xs) : w.ownsRow 0 e size v n xs := by
  obtain ⟨h1, h2⟩ := h
  refine ⟨h1, ?_⟩
  rcases h2 with h' | ⟨g', cap', cur, h', _, rest⟩
  · exact .inl h'
  · exact .inr ⟨g', cap', cur, h', Nat.zero_le _, rest⟩
theorem row_blkB {w w' : World} {base e size n : Nat} {v : Value} {xs : List Value} (h : w.ownsRow base e size v n xs) (hb : ∀ g, v.ownBlock = some g → w'.heap[g]? = w.heap[g]?) : w'.ownsRow base e size v n xs := by
  obtain ⟨h1, h2⟩ := h
  refine ⟨h1, ?_⟩
  rcases h2 with h' | ⟨g', cap', cur, h', hb0, hg, rest⟩
  · exact .inl h'
  · exact .inr ⟨g', cap', cur, h', hb0, by rw [hb g' (by rw [h']; rfl)]; exact hg, rest⟩
theorem getD_mem {l : List Nat} {k : Nat} (h : k < l.length) : l.getD k 0 ∈ l := by
  rw [List.getD_eq_getElem?_getD, List.getElem?_eq_getElem h]
  exact List.getElem_mem h

set_option maxHeartbeats 4000000 in
set_option maxRecDepth 100000 in
theorem link_any (F : Nat → Prop) (n : Nat) (O : Nat → List Nat) (E : Nat → Bool) (R : Nat → Value) (bd v : Nat) (s : DS) (w : World) (hvn : v < n) (hL : s.L ≤ 5000) (hvL : v < s.L)
    (hO : ∀ h ∈ O v, h < n ∧ h < s.L) (hat : s.at_ v = []) (hlen : (O v).length ≤ 100000) (hin : ∀ h, (s.inn h).length ≤ 100000) (hD : Det F n O E R w bd s) :
    Calls Yba.prog 20 #[.pointer (some ⟨bd, 0, none⟩), .int .i64 (v : Int)] w fun e w' => e = .returned (.tuple #[]) ∧ Det F n O E R w' bd (s.link E v (O v)) ∧ Keep F w w' := by
  obtain ⟨i3, hi3, hz30, hz31, hz32⟩ := info_parts I.infoE
  obtain ⟨i39, hi39, hz390, hz391, hz392⟩ := info_parts info39
  obtain ⟨m, hX, hR0, hB, hI, hA⟩ := hD
  have HR : Hid (m.rowV = R) := hR0
  clear hR0
  have hFlt := hX.Flt
  have hvA : v < m.lA := by omega
  have hOI : ∀ h ∈ O v, h < n ∧ h < m.lI := fun h hh => by have := hO h hh; omega
  have hlA : m.lA ≤ 5000 := by omega
  have hlI : m.lI ≤ 5000 := by omega
  have HL : Hid (m.lB = s.L ∧ m.lI = s.L ∧ m.lA = s.L) := ⟨hB, hI, hA⟩
  clear hB hI hA hO hvL
  have hnil := hX.atNil v hvA hat
  have hAB : ∀ i, i < m.lA → ∀ g, (m.atV i).ownBlock = some g → g < w.heap.size := fun i hi g hg => row_lt (hX.atRow i hi) hg
  obtain ⟨ra, rc, hrv⟩ := row_form (hX.row v hvn)
  have c1 := hX.cA
  have c2 := hX.at_.mr v hvA
  rw [hnil] at c2
  have c3 := hX.cO
  have c4 := hX.out.mr v hvn
  rw [hrv] at c4
  have hA0 : w.ownsRow w.heap.size 3 1 (.slice none 0 0) 0 (icells []) := ⟨rfl, .inl ⟨rfl, rfl⟩⟩
  go_enter Yba.func20, Yba.ntmps20
  go_wp2_with fail
  go_loopw [4, 23] (fun a j wr => ∃ k iv, k ≤ (O v).length ∧ j = .int .i64 (k : Nat) ∧ DetX F n O E wr bd { s with inn := (lkTo E v (O v) s.inn k).1 } { m with inV := iv } ∧ wr.ownsRow w.heap.size 3 1 a k (icells (lkTo E v (O v) s.inn k).2) ∧ Keep F w wr ∧ (k = 0 → a = .slice none 0 0)) (fun _ j _ => (O v).length - (intOf j).toNat)
  case atStart => exact ⟨0, m.inV, Nat.zero_le _, rfl, hX, hA0, Keep.refl _ _, fun _ => rfl⟩
  case round =>
    clear hX c1 c2 c3 c4 hA0 hnil
    obtain ⟨k, iv, hk, rfl, hX, hR, hK, h0⟩ := hrel
    have H0 : Hid (k = 0 → u4 = .slice none 0 0) := h0
    clear h0
    have hFr := hK.lt hFlt
    have hsz := hK.size
    by_cases hlt : k < (O v).length
    · obtain ⟨gr, cr, hform, _, _⟩ := World.ownsRow.form (hX.row v hvn) (by omega)
      simp only at hform
      rw [hrv] at hform
      simp only [Value.slice.injEq, true_and] at hform
      obtain ⟨rfl, rfl⟩ := hform
      have hrow : Arr wr gr 3 (O v).length rc (nv .i64 (O v)) := by
        have := hX.row v hvn
        simp only [hrv] at this
        exact this
      have e1 := hrow.nat k hlt
      obtain ⟨hxn, hxI⟩ := hOI _ (getD_mem hlt)
      have HE : Hid (lkTo E v (O v) s.inn (k + 1) = if E ((O v).getD k 0) then ((lkTo E v (O v) s.inn k).1, (lkTo E v (O v) s.inn k).2 ++ [-1])
        else (upd (lkTo E v (O v) s.inn k).1 ((O v).getD k 0) ((lkTo E v (O v) s.inn k).1 ((O v).getD k 0) ++ [((v : Int), (k : Int))]), (lkTo E v (O v) s.inn k).2 ++ [(((lkTo E v (O v) s.inn k).1 ((O v).getD k 0)).length : Int)])) := rfl
      have hgrow := lkTo_grow E v (O v) s.inn ((O v).getD k 0) k
      have hin' := hin ((O v).getD k 0)
      generalize (O v).getD k 0 = x at *
      have c1 : wr.cell? ⟨bd, 10, none⟩ = some (.slice (some ⟨m.gE, 0, none⟩) n n) := hX.cE
      have c2 := hX.en.mr x hxn
      simp only at c2
      have hfar : ∀ g, u4.ownBlock = some g → ¬ F g ∧ (∃ cur, wr.heap[g]? = some (.cells cur 3 (0, 0))) ∧ ∀ i, i < m.lA → (m.atV i).ownBlock ≠ some g := fun g hg => by
        have h1 := (World.ownsRow.lt hR g hg).1
        exact ⟨fun hF => by have := hFlt g hF; omega, row_ty (row_mono hR) hg, fun i hi e => by have := hAB i hi g e; omega⟩
      cases hE : E x
      · rw [hE] at c2
        have hE2 := HE.out
        rw [hE, if_neg (by simp)] at hE2
        have HE2 := (show Hid _ from hE2)
        clear hE2 HE
        have hir : wr.ownsRow 0 39 2 (iv x) ((lkTo E v (O v) s.inn k).1 x).length (lcells ((lkTo E v (O v) s.inn k).1 x)) := hX.inRow x hxI
        obtain ⟨ia, ic, hiv⟩ := row_form hir
        generalize lkTo E v (O v) s.inn k = lk at *
        have c3 : wr.cell? ⟨bd, 16, none⟩ = some (.slice (some ⟨m.gI, 0, none⟩) m.lI m.cI) := hX.cI
        have c4 : wr.cell? ⟨m.gI, x, none⟩ = some (iv x) := hX.inn.mr x hxI
        rw [hiv] at c4
        have hq : (lk.1 x).length ≤ 200000 := by omega
        obtain ⟨q, hqq⟩ : ∃ q, q = (lk.1 x).length := ⟨_, rfl⟩
        have Hq : Hid (q = (lk.1 x).length) := hqq
        rw [← hqq] at hq c4 hiv
        clear hqq
        go_wp2_with (at_builtin; refine wpList_append_one rfl (.tmp 38) (.tmp 47) 33 rfl w.heap.size 3 i3 (.int .i64 0) 8 Yba.underlying33 hi3 hz30 hz31 hz32 rfl u4 k _ rfl hR rfl rfl ?c1 ?c2 ?c3 ?_)
        case c1 => unfold maxLen; omega
        case c2 => omega
        case c3 => exact hsz
        intro v' w1 hR' hg'
        have hX' := hX.far hg' hfar
        have hK' := hK.grown hFlt hg' (fun g hg => (hfar g hg).1)
        rw [icells_app] at hR'
        have hs1 := hg'.size
        clear hX hR hK c1 c2 c3 c4 hrow hfar hgrow e1 hir hg' hin'
        go_upto_region 7 with (fail)
        have hFr1 := hK'.lt hFlt
        have hlt1 := hX'.inn.lt
        simp only at hlt1
        have hlb1 := hX'.box.lt
        have hir : w1.ownsRow 0 39 2 (.slice ia q ic) q (lcells (lk.1 x)) := by
          have := hX'.inRow x hxI
          simp only at this
          rw [hiv, ← Hq.out] at this
          exact this
        have c3 : w1.cell? ⟨bd, 16, none⟩ = some (.slice (some ⟨m.gI, 0, none⟩) m.lI m.cI) := hX'.cI
        have c4 : w1.cell? ⟨m.gI, x, none⟩ = some (iv x) := hX'.inn.mr x hxI
        have f4 : w1.frozen? ⟨m.gI, x, none⟩ = false := hX'.inn.fr x
        rw [hiv] at c4
        have b1 : (0 : Int) ≤ (x : Int) := Int.natCast_nonneg _
        have b2 : (x : Int) < (m.lI : Int) := by omega
        have n1 : (Value.slice ia q ic).ownBlock ≠ some bd := fun e => ty_ne (row_ty hir e) hX'.box.ty (by decide) rfl
        have n2 : (Value.slice ia q ic).ownBlock ≠ some m.gI := fun e => ty_ne (row_ty hir e) hX'.inn.ty (by decide) rfl
        have f5 : ∀ o, (w1.alloc o).drew.frozen? ⟨m.gI, x, none⟩ = false := fun o => (World.frozen?_of_block (w := w1) (w' := (w1.alloc o).drew) (a := ⟨m.gI, x, none⟩) (Below.heap_alloc w1 o m.gI hlt1)).trans f4
        have hq1 : q + 1 ≤ maxLen := by unfold maxLen; omega
        have hq2 : (q + 1) * 16 ≤ 140737488355328 := by omega
        have f8 : ∀ o, (w1.alloc o).drew.cell? ⟨m.gI, x, none⟩ = some (.slice ia q ic) := fun o => (World.cell?_of_block (w := w1) (w' := (w1.alloc o).drew) (a := ⟨m.gI, x, none⟩) (Below.heap_alloc w1 o m.gI hlt1)).trans c4
        have f9 : ∀ o, (w1.alloc o).drew.cell? ⟨bd, 16, none⟩ = some (.slice (some ⟨m.gI, 0, none⟩) m.lI m.cI) := fun o => (World.cell?_of_block (w := w1) (w' := (w1.alloc o).drew) (a := ⟨bd, 16, none⟩) (Below.heap_alloc w1 o bd hlb1)).trans c3
        have f6 : ∀ (wx : World) (u : Value), (wx.setCell ⟨m.gI, x, none⟩ u).cell? ⟨bd, 16, none⟩ = wx.cell? ⟨bd, 16, none⟩ := fun wx u => World.cell?_of_block (a := ⟨bd, 16, none⟩) (Below.heap_setCell wx ⟨m.gI, x, none⟩ u bd hX'.nbI)
        have hfin : Hid (∀ gg cap w2, w2.ownsRow 0 39 2 (.slice (some ⟨gg, 0, none⟩) (q + 1) cap) (q + 1) (lcells (lk.1 x) ++ [.int .i64 (v : Int), .int .i64 (k : Int)]) →
            (w1.alloc (.cells #[.int .i64 (v : Int), .int .i64 (k : Int)] 39)).drew.grownBy w2 (Value.slice ia q ic).ownBlock → ((Value.slice ia q ic).ownBlock = some gg ∨ gg = w1.heap.size + 1) →
            ∃ iv', DetX F n O E (w2.setCell ⟨m.gI, x, none⟩ (.slice (some ⟨gg, 0, none⟩) (q + 1) cap)) bd { s with inn := upd lk.1 x (lk.1 x ++ [((v : Int), (k : Int))]) } { m with inV := iv' } ∧
              (w2.setCell ⟨m.gI, x, none⟩ (.slice (some ⟨gg, 0, none⟩) (q + 1) cap)).ownsRow w.heap.size 3 1 v' (k + 1) (icells (lk.2 ++ [(q : Int)])) ∧ Keep F w (w2.setCell ⟨m.gI, x, none⟩ (.slice (some ⟨gg, 0, none⟩) (q + 1) cap))) := by
          intro gg cap w2 hown1 hgrow hat2
          have hX2 := (hX'.alloc (.cells #[.int .i64 (v : Int), .int .i64 (k : Int)] 39)).drew
          have hiv' : ({ m with inV := iv } : Mem).inV x = .slice ia q ic := hiv
          rw [← hiv'] at hgrow hat2
          rw [Hq.out] at hown1 hR' ⊢
          have hX3 := hX2.linkIn (x := x) hxI hown1 hgrow (hat2.imp id (fun e => by simp; omega))
          have hne : ∀ g, v'.ownBlock = some g → w.heap.size ≤ g ∧ g < w1.heap.size ∧ ∃ cur, w1.heap[g]? = some (.cells cur 3 (0, 0)) := fun g hg => ⟨(World.ownsRow.lt hR' g hg).1, (World.ownsRow.lt hR' g hg).2, row_ty (row_mono hR') hg⟩
          refine ⟨_, hX3, ?_, ?_⟩
          · refine row_blkB hR' (fun g hg => ?_)
            obtain ⟨_, h2, h3⟩ := hne g hg
            refine (Below.heap_setCell w2 _ _ g (ty_ne h3 hX'.inn.ty (by decide))).trans ((hgrow.block g (by simp; omega) (fun e => ?_)).trans (Below.heap_alloc w1 _ g h2))
            exact ty_ne h3 (row_ty (hX'.inRow x hxI) e.symm) (by decide) rfl
          · exact (((hK'.alloc hFlt _).drew).grown hFlt hgrow (fun g hg => hX'.Fin x g hxI hg)).set _ _ _ hX'.FI
        have hround : Hid (∀ wd, (∃ iv', DetX F n O E wd bd { s with inn := upd lk.1 x (lk.1 x ++ [((v : Int), (k : Int))]) } { m with inV := iv' } ∧ wd.ownsRow w.heap.size 3 1 v' (k + 1) (icells (lk.2 ++ [(q : Int)])) ∧ Keep F w wd) →
            ∃ k' iv', k' ≤ (O v).length ∧ Value.int .i64 ((k : Int) + 1) = .int .i64 (k' : Nat) ∧ DetX F n O E wd bd { s with inn := (lkTo E v (O v) s.inn k').1 } { m with inV := iv' } ∧ wd.ownsRow w.heap.size 3 1 v' k' (icells (lkTo E v (O v) s.inn k').2) ∧ Keep F w wd ∧ (k' = 0 → v' = .slice none 0 0)) := by
          intro wd ⟨iv', h1, h2, h3⟩
          refine ⟨k + 1, iv', by omega, by go_num, ?_, ?_, h3, fun h => by omega⟩
          · rw [HE2.out]; exact h1
          · rw [HE2.out, ← Hq.out]; exact h2
        clear hX' hR' hK' hFr1 hiv
        go_region_law
          ((refine step_append_lies _ (by rfl) _ _ _ (by rfl) 0 39 i39 _ 2 16 Yba.underlying37 hi39 hz390 hz391 hz392 rfl (by omega) (.slice ia q ic) q (lcells (lk.1 x)) (by rfl) ((hir.alloc _).drew)
              ⟨w1.heap.size, 0, none⟩ 1 1 [.int .i64 (v : Int), .int .i64 (k : Int)] (by rfl) (by rfl) (World.news_of_block (cs := #[.int .i64 (v : Int), .int .i64 (k : Int)]) (t := 39) (fr := (0, 0)) (heap_alloc_new w1 _)) (by simp [Value.oneCell'])
              (by omega) hq1 hq2 (by simp) (w1.heap.size + 1) (by simp) ?_; intro gg cap w2 hown1 hgrow hat2 hlt2
            have c5 : w2.cell? ⟨m.gI, x, none⟩ = some (.slice ia q ic) := (hgrow.cell_far _ (by simp; omega) (Ne.symm n2)).trans (f8 _)
            have c6 : w2.cell? ⟨bd, 16, none⟩ = some (.slice (some ⟨m.gI, 0, none⟩) m.lI m.cI) := (hgrow.cell_far _ (by simp; omega) (Ne.symm n1)).trans (f9 _)
            have f7 : w2.frozen? ⟨m.gI, x, none⟩ = false := (hgrow.frozen_far _ (by simp; omega) (Ne.symm n2)).trans (f5 _)))
        all_goals go_wp2
        all_goals go_roundw
        all_goals first | exact hround.out _ (hfin.out _ _ _ hown1 hgrow hat2) | (simp [intOf]; omega) | skip
      · rw [hE] at c2
        have hE2 := HE.out
        rw [hE, if_pos rfl] at hE2
        have HE2 := (show Hid _ from hE2)
        clear hE2 HE
        go_wp2_with (at_builtin; refine wpList_append_one rfl (.tmp 35) (.tmp 36) 33 rfl w.heap.size 3 i3 (.int .i64 0) 8 Yba.underlying33 hi3 hz30 hz31 hz32 rfl u4 k _ rfl hR rfl rfl ?c1 ?c2 ?c3 ?_)
        case c1 => unfold maxLen; omega
        case c2 => omega
        case c3 => exact hsz
        intro v' w1 hR' hg'
        have hX' := hX.far hg' hfar
        have hK' := hK.grown hFlt hg' (fun g hg => (hfar g hg).1)
        rw [icells_app] at hR'
        clear hX hR hK c1 c2 hrow hfar hgrow e1
        go_wp2
        go_roundw
        case rel =>
          refine ⟨k + 1, iv, by omega, by go_num, ?_, ?_, hK', fun h => by omega⟩
          · rw [HE2.out]; exact hX'
          · rw [HE2.out]; exact hR'
        case measure => simp [intOf]; omega
    · obtain rfl : k = (O v).length := by omega
      obtain ⟨ua, uc, rfl⟩ := row_form (row_mono hR)
      have c1 : wr.cell? ⟨bd, 17, none⟩ = some (.slice (some ⟨m.gA, 0, none⟩) m.lA m.cA) := hX.cA
      have c2 : wr.cell? ⟨m.gA, v, none⟩ = some (m.atV v) := hX.at_.mr v hvA
      have f2 : wr.frozen? ⟨m.gA, v, none⟩ = false := hX.at_.fr v
      have hll := lkTo_len E v (O v) s.inn (O v).length
      have hX' := hX.setA (v := v) hvA (u := .slice ua (O v).length uc) (l := (lkTo E v (O v) s.inn (O v).length).2) (by rw [hll]; exact row_mono hR) (fun g hg hF => by
        have h1 := (World.ownsRow.lt hR g hg).1
        have := hFlt g hF
        omega) (fun e => by
        rw [e] at hll
        exact H0.out hll.symm)
      have hK' := hK.set m.gA v (.slice ua (O v).length uc) hX.FA
      clear hX hR hK hll
      go_wp2
      go_end0
      have hl := HL.out
      exact ⟨rfl, ⟨_, hX', HR.out, hl.1, hl.2.1, hl.2.2⟩, hK'⟩
end Go.Proofs.Ybulkekys
