import Derived.Test.YbulkekysLk
import Derived.Deep.Onto
import Derived.WalkSmall
namespace Go.Proofs.Ybulkekys
open Go.RowKit

theorem Cx.lt {c : Cx} (hv : ∀ v ∈ c.vs, v < c.n) (hO : ∀ p, p < c.n → ∀ h ∈ c.O p, h < c.n) {x : Nat} (h : IP c x) : x < c.n := h (fun y => y < c.n) hv (fun p h hp ho _ => hO p hp h ho)
theorem MInv.Lle {c : Cx} {s : DS} {st : List Nat} {D K : Nat → Bool} (I : MInv c s st D K) (hv : ∀ v ∈ c.vs, v < c.n) (hO : ∀ p, p < c.n → ∀ h ∈ c.O p, h < c.n) (h0 : c.s0.L ≤ c.n) : s.L ≤ c.n := by
  rcases I.Lx with h | ⟨i, hi, h⟩
  · omega
  · have := Cx.lt hv hO hi; omega
theorem VInv.Lle {c : Cx} {s : DS} {j : Nat} (I : VInv c s j) (hv : ∀ v ∈ c.vs, v < c.n) (hO : ∀ p, p < c.n → ∀ h ∈ c.O p, h < c.n) (h0 : c.s0.L ≤ c.n) : s.L ≤ c.n := by
  rcases I.Lx with h | ⟨i, hi, h⟩
  · omega
  · have := Cx.lt hv hO hi; omega
theorem occ_le (E : Nat → Bool) (l : List Nat) (h : Nat) : occ E l h ≤ l.length := by
  unfold occ; split
  · omega
  · exact List.count_le_length
theorem MInv.inLe {c : Cx} {s : DS} {st : List Nat} {D K : Nat → Bool} (I : MInv c s st D K) (h0 : ∀ h, (c.s0.inn h).length ≤ 3) (ht : lsum (fun p => (c.O p).length) (fun _ => true) c.n ≤ 65536) (h : Nat) : (s.inn h).length ≤ 65539 := by
  have h1 := I.inLen h
  have h2 := lsum_le (fun p => occ c.E (c.O p) h) (fun p => (c.O p).length) K (fun p => occ_le c.E (c.O p) h) c.n
  have h3 := h0 h
  omega
theorem MInv.congr {c : Cx} {s : DS} {st st' : List Nat} {D K : Nat → Bool} (I : MInv c s st D K) (h : ∀ x, x ∈ st' ↔ x ∈ st) : MInv c s st' D K :=
  { I with
    stIP := fun x hx => I.stIP x ((h x).1 hx)
    vsQ := fun v hv => (I.vsQ v hv).imp (h v).2 id
    bgQ := fun i hi => (I.bgQ i hi).imp id (fun h' => h'.imp (h i).2 id)
    qbg := fun i hi => I.qbg i (hi.imp (h i).1 id)
    lt := fun i hi => I.lt i (hi.imp (h i).1 id) }
theorem lsum_ge (f : Nat → Nat) (p : Nat) : ∀ n, p < n → f p ≤ lsum f (fun _ => true) n
  | 0, h => absurd h (by omega)
  | n + 1, h => by
    simp only [lsum, if_true]
    by_cases e : p = n
    · subst e; omega
    · have := lsum_ge f p n (by omega); omega

section
variable {F : Nat → Prop} {n : Nat} {O : Nat → List Nat} {E : Nat → Bool} {R : Nat → Value}
theorem markB (bd v : Nat) (s : DS) (w : World) (row : Option Nat) (hv : v < 5000) (hL : s.L ≤ 5000) (hD : DetB F n O E R w bd s row) (hr : RowOk F w row) (hR : ∀ i g, i < n → (R i).ownBlock = some g → F g) :
    Calls Yba.prog 18 #[.pointer (some ⟨bd, 0, none⟩), .int .i64 (v : Int)] w fun e w' => e = .returned (.tuple #[]) ∧ DetB F n O E R w' bd (s.mark v) row ∧ Keep (Fu F row) w w' :=
  (mark_any _ n O E R bd v s w hv hL (hD.up hr)).mono (fun _ _ h => ⟨h.1, h.2.1.down (hr.keep h.2.2) hR, h.2.2⟩)
theorem linkB (bd v : Nat) (s : DS) (w : World) (row : Option Nat) (hvn : v < n) (hL : s.L ≤ 5000) (hvL : v < s.L)
    (hO : ∀ h ∈ O v, h < n ∧ h < s.L) (hat : s.at_ v = []) (hlen : (O v).length ≤ 100000) (hin : ∀ h, (s.inn h).length ≤ 100000) (hD : DetB F n O E R w bd s row) (hr : RowOk F w row) (hR : ∀ i g, i < n → (R i).ownBlock = some g → F g) :
    Calls Yba.prog 20 #[.pointer (some ⟨bd, 0, none⟩), .int .i64 (v : Int)] w fun e w' => e = .returned (.tuple #[]) ∧ DetB F n O E R w' bd (s.link E v (O v)) row ∧ Keep (Fu F row) w w' :=
  (link_any _ n O E R bd v s w hvn hL hvL hO hat hlen hin (hD.up hr)).mono (fun _ _ h => ⟨h.1, h.2.1.down (hr.keep h.2.2) hR, h.2.2⟩)
end

/-- 'out = append(out, x)', and where it lies. -/
theorem wpList_append_at {P : Program} {w : World} {x : Value} {ops : Array Oper} {rest : List Oper} {o : Oper} {a : Act} {Q : Exit → Act → World → Prop} (hgd : o.guard = none) (s y : Operand) (t : TypeId)
    (ho : o.op = .call { callee := .builtin .append, args := #[s, y], argTypes := #[t, t] })
    (base : Nat) (e : TypeId) (i : TypeInfo) (z : Value) (bytes : Nat) (ht : P.underlying t = some (.slice e)) (hi : P.info? e = some i) (hz : i.zero = some z)
    (hsize : i.size = 1) (hby : i.bytes = bytes) (hzs : z.cells.size = 1)
    (v : Value) (n : Nat) (xs : List Value) (hs : a.eval s = v) (hown : w.ownsRow base e 1 v n xs)
    (hx : a.eval y = .slice (some ⟨w.heap.size, 0, none⟩) 1 1) (h1 : x.oneCell' = true)
    (h63 : n + 1 ≤ maxLen) (hbytes : (n + 1) * bytes ≤ 140737488355328) (hbase : base ≤ w.heap.size)
    (h : ∀ g cap w', w'.ownsRow base e 1 (.slice (some ⟨g, 0, none⟩) (n + 1) cap) (n + 1) (xs ++ [x]) → w.grownBy w' v.ownBlock → (some g = v.ownBlock ∨ w.heap.size ≤ g) → wpList P ops Q rest (a.put o.dst (.slice (some ⟨g, 0, none⟩) (n + 1) cap)) w') : wpList P ops Q (o :: rest) a (w.alloc (.cells #[x] e)) := by
  refine wpList_append_lies _ hgd s y t ho base e i z 1 bytes ht hi hz hsize hby hzs (by decide) v n xs hs (hown.alloc _) ⟨w.heap.size, 0, none⟩ 1 1 [x] hx (by simp) ?_ ?_ (by decide) h63 hbytes (by simp; omega) (w.heap.size + 1) (by simp) ?_
  · intro j u hj
    match j, hj with
    | 0, hj => simp at hj; subst hj; simp [Addr.add]
  · intro u hu
    simp at hu
    subst hu
    exact h1
  · intro g cap w' h2 h3 h4 _
    exact h g cap w' h2 (grownBy_of_alloc h3) (h4.imp Eq.symm (fun e => by omega))

def boolOf : Option Value → Bool
  | some (.bool b) => b
  | _ => false
def blkOf : Option Value → Nat
  | some (.slice (some a) _ _) => a.block
  | _ => 0
/-- The marks, read out of the world. -/
def bgOf (w : World) (bd i : Nat) : Bool := if i < slen (w.cell? ⟨bd, 15, none⟩) then boolOf (w.cell? ⟨blkOf (w.cell? ⟨bd, 15, none⟩), i, none⟩) else false
theorem Det.bgOf {F : Nat → Prop} {n : Nat} {O : Nat → List Nat} {E : Nat → Bool} {R : Nat → Value} {w : World} {bd : Nat} {s : DS} (h : Det F n O E R w bd s) : bgOf w bd = s.bg := by
  obtain ⟨m, h1, _⟩ := h
  funext i
  unfold Ybulkekys.bgOf
  rw [h1.cB]
  show (if i < m.lB then boolOf (w.cell? ⟨m.gB, i, none⟩) else false) = _
  split
  · rename_i hlt
    rw [h1.bg.mr i hlt]; rfl
  · rw [h1.offB i (by omega)]
theorem DetB.row {F : Nat → Prop} {n : Nat} {O : Nat → List Nat} {E : Nat → Bool} {R : Nat → Value} {w : World} {bd : Nat} {s : DS} {row : Option Nat} (h : DetB F n O E R w bd s row) (i : Nat) (hi : i < n) : w.ownsRow 0 3 1 (R i) (O i).length (nv .i64 (O i)) := by
  obtain ⟨m, h1, h2, _⟩ := h
  rw [← h2]; exact h1.row i hi

set_option maxHeartbeats 4000000 in
set_option maxRecDepth 100000 in
theorem markBelow_any (F : Nat → Prop) (n : Nat) (O : Nat → List Nat) (E : Nat → Bool) (R : Nat → Value) (bd gv cv : Nat) (vs : List Nat) (s0 : DS) (w : World) (hn : n ≤ 4097) (hL0 : s0.L ≤ n) (hvl : vs.length ≤ 16384) (hvs : ∀ v ∈ vs, v < n)
    (hO : ∀ p, p < n → ∀ h ∈ O p, h < n) (hT : lsum (fun p => (O p).length) (fun _ => true) n ≤ 65536) (hi0 : ∀ h, (s0.inn h).length ≤ 3) (hR : ∀ i g, i < n → (R i).ownBlock = some g → F g)
    (hD : Det F n O E R w bd s0) (hA : Arr w gv 3 vs.length cv (nv .i64 vs)) (hFv : F gv) :
    Calls Yba.prog 9 #[.pointer (some ⟨bd, 0, none⟩), .slice (some ⟨gv, 0, none⟩) vs.length cv] w fun e w' => e = .returned (.tuple #[]) ∧ ∃ s D K, MInv ⟨n, O, E, vs, s0⟩ s [] D K ∧ Det F n O E R w' bd s ∧ Keep F w w' := by
  obtain ⟨i3, hi3, hz30, hz31, hz32⟩ := info_parts I.infoE
  have hFlt : ∀ k, F k → k < w.heap.size := hD.free.Flt
  have hV0 : VInv ⟨n, O, E, vs, s0⟩ s0 0 := VInv.start (fun i hi => by
    obtain ⟨m, h1, _, h2, _⟩ := hD
    rcases Nat.lt_or_ge i s0.L with h | h
    · exact h
    · have := h1.offB i (by omega); simp only at hi; rw [this] at hi; cases hi)
  go_enter Yba.func9, Yba.ntmps9
  go_wp2_with fail
  go_loopw [12] (fun j wr => ∃ k s, k ≤ vs.length ∧ j = .int .i64 (k : Nat) ∧ VInv ⟨n, O, E, vs, s0⟩ s k ∧ Det F n O E R wr bd s ∧ Keep F w wr) (fun j _ => vs.length - (intOf j).toNat)
  case atStart => exact ⟨0, s0, Nat.zero_le _, rfl, hV0, hD, Keep.refl _ _⟩
  case round =>
    clear hV0 hD
    obtain ⟨k, s, hk, rfl, hV, hD, hK⟩ := hrel
    have hA' := hA.blk (hK.block gv hFv)
    have hLn := hV.Lle hvs hO hL0
    simp only at hLn
    by_cases hlt : k < vs.length
    · have e1 := hA'.nat k hlt
      have hvn := hvs _ (getD_mem hlt)
      have hV' := hV.step hlt
      simp only at hV'
      generalize vs.getD k 0 = v at *
      go_wp2_with fail
      refine (mark_any F n O E R bd v s wr (by omega) (by omega) hD).mono ?_
      rintro e w1 ⟨rfl, hD1, hK1⟩
      have hK2 := hK.trans hK1
      clear hD hV hK hK1 e1 hA'
      go_wp2
      go_roundw
      case rel => exact ⟨k + 1, _, by omega, by go_num, hV', hD1, hK2⟩
      case measure => simp [intOf]; omega
    · obtain rfl : k = vs.length := by omega
      have hM := hV.done hvs
      have hD0 := hD.free
      have hsz := hK.size
      clear hV hD
      go_wp2_with (at_builtin; refine wpList_append_own _ rfl (.const (.slice none 0 0)) (.tmp 20) 33 rfl wr.heap.size 3 i3 (.int .i64 0) 1 8 Yba.underlying33 hi3 hz30 hz31 hz32 rfl (by decide) (.slice none 0 0) 0 [] rfl ⟨rfl, .inl ⟨rfl, rfl⟩⟩ ⟨gv, 0, none⟩ vs.length cv (nv .i64 vs) rfl ?c0 ?c1 (nv_one _ _) ?c2 ?c3 (Nat.le_refl _) ?_)
      case c0 => rw [nv_len]
      case c1 =>
        intro j u hj
        rw [hA'.cell j (by rw [← hA'.len]; exact (List.getElem?_eq_some_iff.1 hj).1)]
        exact hj
      case c2 => unfold maxLen; omega
      case c3 => omega
      intro b w1 hB hg1 _
      have hrow : ∀ g, b.ownBlock = some g → wr.heap.size ≤ g := fun g hg => (World.ownsRow.lt hB g hg).1
      have hok : RowOk F w1 b.ownBlock := fun g hg => ⟨fun hF => by have := hFlt g hF; have := hrow g hg; omega, row_ty (row_mono hB) hg⟩
      have hD1 : DetB F n O E R w1 bd s b.ownBlock := hD0.grow (fun g e => by cases e) hg1 (by
        cases e : b.ownBlock with
        | none => exact .inl rfl
        | some g => exact .inr ⟨g, rfl, hrow g e⟩)
      have hB1 : w1.ownsRow w.heap.size 3 1 b vs.length (nv .i64 vs) := World.ownsRow.mono hB hsz
      have hK1 := hK.grown hFlt hg1 (fun g e => by cases e)
      have hun := unm_le s.bg n
      clear hB hg1 hD0 hK hrow hA' hA
      have hst : unm s.bg n + vs.length ≤ n + vs.length := by omega
      go_wp2_with fail
      go_loopw [6] (fun b wr => ∃ s st D K, MInv ⟨n, O, E, vs, s0⟩ s st D K ∧ DetB F n O E R wr bd s b.ownBlock ∧ wr.ownsRow w.heap.size 3 1 b st.length (nv .i64 st) ∧ Keep F w wr ∧ unm s.bg n + st.length ≤ n + vs.length) (fun b wr => unm (bgOf wr bd) n + slen (some b))
      case atStart => exact ⟨s, vs, _, _, hM, hD1, hB1, hK1, hst⟩
      case round =>
        clear hM hok hD1 hB1 hK1 hun hst hsz hlt hk hLn
        obtain ⟨s, st, D, K, hM, hD, hB, hK, hst⟩ := hrel
        have hLn : s.L ≤ n := hM.Lle hvs hO hL0
        have hsz := hK.size
        have hok : RowOk F wr u6.ownBlock := fun g hg => ⟨fun hF => by have := hFlt g hF; have := (World.ownsRow.lt hB g hg).1; omega, row_ty (row_mono hB) hg⟩
        by_cases hlt : 0 < st.length
        · have HM : Hid (unm (bgOf wr bd) n + slen (some u6) = unm s.bg n + st.length) := by
            rw [hD.det.bgOf]
            obtain ⟨a, c, e⟩ := row_form (row_mono hB)
            rw [e]; rfl
          obtain ⟨st', v, rfl⟩ : ∃ st' v, st = st' ++ [v] := ⟨st.dropLast, st.getLast (by intro e; rw [e] at hlt; cases hlt), (List.dropLast_concat_getLast _).symm⟩
          have hl : (st' ++ [v]).length = st'.length + 1 := by simp
          rw [hl] at hB hst HM
          clear hlt hl
          obtain ⟨gb, cb, rfl, hgb1, hgb2⟩ := World.ownsRow.form hB (by omega)
          have hM1 : MInv ⟨n, O, E, vs, s0⟩ s (v :: st') D K := hM.congr (fun x => by simp [or_comm])
          have hvn : v < n := hM1.lt v (.inl (by simp))
          have e1 : wr.cell? ⟨gb, st'.length, none⟩ = some (.int .i64 (v : Int)) := by
            have := World.ownsRow.cellAt hB st'.length (by omega)
            rw [this]; simp [nv]
          have hB' : wr.ownsRow w.heap.size 3 1 (.slice (some ⟨gb, 0, none⟩) st'.length cb) st'.length (nv .i64 st') :=
            ownsRow_pop (last := [.int .i64 (v : Int)]) (by rw [nv_len]; omega) (by rw [nv_app]; exact hB)
          obtain ⟨ra, rc, hrv⟩ := row_form (hD.row v hvn)
          obtain ⟨gO, c1, c2⟩ : ∃ gO, wr.cell? ⟨bd, 7, none⟩ = some (.slice (some ⟨gO, 0, none⟩) n n) ∧ wr.cell? ⟨gO, v, none⟩ = some (R v) := by
            obtain ⟨m, hX, hRm, _⟩ := hD
            exact ⟨m.gO, hX.cO, by rw [← hRm]; exact hX.out.mr v hvn⟩
          rw [hrv] at c2
          have hcb : st'.length ≤ cb := by
            have := Arr.cut (Arr.of hB)
            omega
          clear hM hB
          have hnone : ∀ h ∈ (O v).take 0, s.bg h = true := fun h hh => by simp at hh
          have hOl : (O v).length ≤ 65536 := Nat.le_trans (lsum_ge (fun p => (O p).length) v n hvn) hT
          obtain ⟨C0, hC0⟩ : ∃ C0, C0 = unm s.bg n + st'.length := ⟨_, rfl⟩
          have HC0 : Hid (C0 = unm s.bg n + st'.length) := hC0
          have hC1 : C0 ≤ 30000 := by omega
          clear hC0
          go_wp2_with fail
          go_loopw [6, 44] (fun b j wr => ∃ k s1 st1, k ≤ (O v).length ∧ j = .int .i64 (k : Nat) ∧ MInv ⟨n, O, E, vs, s0⟩ s1 (v :: st1) D K ∧ (∀ h ∈ (O v).take k, s1.bg h = true) ∧ DetB F n O E R wr bd s1 b.ownBlock ∧ wr.ownsRow w.heap.size 3 1 b st1.length (nv .i64 st1) ∧ Keep F w wr ∧ unm s1.bg n + st1.length = C0) (fun _ j _ => (O v).length - (intOf j).toNat)
          case atStart => exact ⟨0, s, st', Nat.zero_le _, rfl, hM1, hnone, hD, hB', hK, HC0.out.symm⟩
          case round =>
            clear hM1 hnone hD hB' hK c1 c2 hok hsz hgb2 e1 hLn
            obtain ⟨k, s1, st1, hk, rfl, hM, hbg, hD, hB, hK, hC⟩ := hrel
            have hLn : s1.L ≤ n := hM.Lle hvs hO hL0
            have hsz := hK.size
            have hok : RowOk F wr u6.ownBlock := fun g hg => ⟨fun hF => by have := hFlt g hF; have := (World.ownsRow.lt hB g hg).1; omega, row_ty (row_mono hB) hg⟩
            by_cases hlt : k < (O v).length
            · obtain ⟨gr, cr, hform, _, _⟩ := World.ownsRow.form (hD.row v hvn) (by omega)
              rw [hrv] at hform
              simp only [Value.slice.injEq, true_and] at hform
              obtain ⟨rfl, rfl⟩ := hform
              have hrow : Arr wr gr 3 (O v).length rc (nv .i64 (O v)) := by
                have := hD.row v hvn
                rw [hrv] at this
                exact this
              have e1 := hrow.nat k hlt
              have hxm : (O v).getD k 0 ∈ O v := getD_mem hlt
              have hxn := hO v hvn _ hxm
              have htk : (O v).take (k + 1) = (O v).take k ++ [(O v).getD k 0] := by
                rw [take_next (O v) k hlt]
                simp [List.getD, List.getElem?_eq_getElem hlt]
              generalize (O v).getD k 0 = x at *
              have Htk : Hid ((O v).take (k + 1) = (O v).take k ++ [x]) := htk
              clear htk hrow
              cases hx : s1.bg x
              · have hmk := marked_any F n O E R bd x s1 wr (by omega) hD.det
                rw [hx] at hmk
                have hP := hM.push hxm hxn hx
                have hbg' : ∀ h ∈ (O v).take (k + 1), (s1.mark x).bg h = true := fun h hh => by
                  rw [Htk.out] at hh
                  rcases List.mem_append.1 hh with h1 | h1
                  · exact upd_true.2 (.inr (hbg h h1))
                  · exact upd_true.2 (.inl (by simpa using h1))
                have hum : unm (s1.mark x).bg n + 1 = unm s1.bg n := unm_mark s1.bg x hx n hxn
                have hC' : unm (s1.mark x).bg n + (st1 ++ [x]).length = C0 := by rw [List.length_append]; simp only [List.length_cons, List.length_nil]; omega
                have HC' : Hid (unm (s1.mark x).bg n + (st1 ++ [x]).length = C0) := hC'
                have hstb : st1.length ≤ 30000 := by omega
                clear hC hum hC' hM hbg
                go_wp2_with fail
                refine hmk.mono ?_
                rintro e w' ⟨rfl, rfl⟩
                clear hmk
                go_wp2_with fail
                refine (markB bd x s1 w' u6.ownBlock (by omega) (by omega) hD hok hR).mono ?_
                rintro e w1 ⟨rfl, hD1, hK1⟩
                have hB1 : w1.ownsRow w.heap.size 3 1 u6 st1.length (nv .i64 st1) := row_blkB hB (fun g hg => hK1.block g (.inr hg))
                have hok1 := hok.keep hK1
                have hsz1 : w.heap.size ≤ w1.heap.size := Nat.le_trans hsz hK1.size
                have hK1' := hK.trans hK1.sub
                clear hD hB hK hK1 hok e1 hsz
                go_wp2_with (at_builtin; refine wpList_append_at rfl (.tmp 55) (.tmp 57) 33 rfl w.heap.size 3 i3 (.int .i64 0) 8 Yba.underlying33 hi3 hz30 hz31 hz32 rfl u6 st1.length (nv .i64 st1) rfl hB1 rfl rfl ?c1 ?c2 ?c3 ?_)
                case c1 => unfold maxLen; omega
                case c2 => omega
                case c3 => exact hsz1
                intro g' c' w2 hB2 hg2 hn2
                have hD2 : DetB F n O E R w2 bd (s1.mark x) (some g') := hD1.grow hok1 hg2 (hn2.imp id (fun h => ⟨g', rfl, h⟩))
                have hK2 := hK1'.grown hFlt hg2 (fun g e => (hok1 g e).1)
                rw [nv_app] at hB2
                have hl : (st1 ++ [x]).length = st1.length + 1 := by simp
                rw [← hl] at hB2 ⊢
                clear hl hD1 hB1 hg2 hn2 hok1 hK1'
                go_wp2
                go_roundw
                case rel => exact ⟨k + 1, _, st1 ++ [x], by omega, by go_num, hP, hbg', hD2, hB2, hK2, HC'.out⟩
                case measure => simp [intOf]; omega
              · have hmk := marked_any F n O E R bd x s1 wr (by omega) hD.det
                rw [hx] at hmk
                have hbg' : ∀ h ∈ (O v).take (k + 1), s1.bg h = true := fun h hh => by
                  rw [Htk.out] at hh
                  rcases List.mem_append.1 hh with h1 | h1
                  · exact hbg h h1
                  · have : h = x := by simpa using h1
                    rw [this]; exact hx
                go_wp2_with fail
                refine hmk.mono ?_
                rintro e w' ⟨rfl, rfl⟩
                clear hmk
                go_wp2
                go_roundw
                case rel => exact ⟨k + 1, s1, st1, by omega, by go_num, hM, hbg', hD, hB, hK, hC⟩
                case measure => simp [intOf]; omega
            · have hall : ∀ h ∈ O v, s1.bg h = true := fun h hh => hbg h (by rw [List.take_of_length_le (by omega)]; exact hh)
              have hvL : v < s1.L := hM.bgL v (hM.qbg v (.inl (by simp)))
              obtain ⟨gA, cA, av, ac, d1, d2, d3⟩ : ∃ gA cA av ac, wr.cell? ⟨bd, 17, none⟩ = some (.slice (some ⟨gA, 0, none⟩) s1.L cA) ∧ wr.cell? ⟨gA, v, none⟩ = some (.slice av (s1.at_ v).length ac) ∧ 0 = 0 := by
                obtain ⟨m, hX, _, _, _, hl, _⟩ := hD
                obtain ⟨a, c, e⟩ := row_form (hX.atRow v (by omega))
                exact ⟨m.gA, m.cA, a, c, by rw [← hl]; exact hX.cA, by rw [← e]; exact hX.at_.mr v (by omega), rfl⟩
              clear d3 hbg
              have hus : slen (some u6) = st1.length := by
                obtain ⟨a, c, e⟩ := row_form (row_mono hB)
                rw [e]; rfl
              have Hus : Hid (slen (some u6) = st1.length) := hus
              have HC : Hid (unm s1.bg n + st1.length = C0) := hC
              have Hst : Hid (unm s.bg n + (st'.length + 1) ≤ n + vs.length) := hst
              clear hus hC hst
              by_cases hat : s1.at_ v = []
              · have hM' := hM.doneNew hall hat
                simp only at hM'
                rw [hat] at d2
                simp only [List.length_nil] at d2
                have hin : ∀ h, (s1.inn h).length ≤ 100000 := fun h => Nat.le_trans (hM.inLe hi0 hT h) (by omega)
                have hlk := linkB bd v s1 wr u6.ownBlock hvn (by omega) hvL (fun h hh => ⟨hO v hvn h hh, hM.bgL h (hall h hh)⟩) hat (by omega) hin hD hok hR
                clear hM hin hall
                go_wp2_with fail
                refine hlk.mono ?_
                rintro e w1 ⟨rfl, hD1, hK1⟩
                have hB1 : w1.ownsRow w.heap.size 3 1 u6 st1.length (nv .i64 st1) := row_blkB hB (fun g hg => hK1.block g (.inr hg))
                have hK1' := hK.trans hK1.sub
                clear hlk hD hB hK hK1 hok d1 d2
                go_wp2_with fail
                have hc := HC.out
                have hc0 := HC0.out
                have hst := Hst.out
                go_roundw
                case rel => exact ⟨_, st1, _, _, hM', hD1, hB1, hK1', by show unm s1.bg n + _ ≤ _; omega⟩
                case measure =>
                  rw [HM.out, Hus.out, hD1.det.bgOf]
                  show unm s1.bg n + _ < _
                  omega
              · have hM' := hM.doneOld hall hat
                have hq : 0 < (s1.at_ v).length := List.length_pos_iff.2 hat
                generalize (s1.at_ v).length = q at *
                clear hM hall hat
                go_wp2_with fail
                have hc := HC.out
                have hc0 := HC0.out
                have hst := Hst.out
                go_roundw
                case rel => exact ⟨_, st1, _, _, hM', hD, hB, hK, by omega⟩
                case measure =>
                  rw [HM.out, Hus.out, hD.det.bgOf]
                  omega
        · obtain rfl : st = [] := List.eq_nil_of_length_eq_zero (by omega)
          obtain ⟨a, c, rfl⟩ := row_form (row_mono hB)
          go_wp2
          go_end0
          exact ⟨rfl, s, D, K, hM, hD.det, hK⟩
end Go.Proofs.Ybulkekys
