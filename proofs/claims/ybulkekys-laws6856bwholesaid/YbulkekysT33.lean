import Derived.Test.YbulkekysFin
import Derived.Test.YbulkekysT5
import Derived.Test.YbulkekysT6
import Derived.Test.YbulkekysT8
namespace Go.Proofs.Ybulkekys
open Go.RowKit

/-- What markBelow does not touch. -/
def Fx (bd b13 gA b1 b19 : Nat) : Nat → Prop := fun k => k < bd ∧ (k < b13 ∨ (gA < k ∧ k < b1) ∨ b19 ≤ k)

/-- The memory ahead of markBelow. -/
structure Pre (B : Nat) (w0 w : World) (b13 b1 b19 bd : Nat) (vsx : Array Value) (n : Nat) (gO : Nat) (gOc : Nat) (mm : Nat) (gE : Nat) (gEc : Nat) (cEc : Nat) (gB : Nat) (gI : Nat) (gA : Nat) (gL : Nat) (gK : Nat) (gV : Nat) (lv : Nat) (gVc : Nat) (cVc : Nat) (gBc : Nat) (cBc : Nat) (gP : Nat) (FL : Nat) (gN : Nat) (gC : Nat) (O : Nat → List Nat) (E li LN P bg0 : Nat → Bool) (il : Nat → Nat) (vs : List Nat) (R rc inV atV : Nat → Value) : Prop where
  hB : Below B w0 w
  hBb : B ≤ b13
  hn : n ≤ 4097
  hmm : mm ≤ n
  hlv : lv ≤ 16384
  hvs : vs.length = lv
  hvn : ∀ v ∈ vs, v < n
  hO : ∀ p, p < n → ∀ h ∈ O p, h < n
  hT : lsum (fun p => (O p).length) (fun _ => true) n ≤ 65536
  hil : ∀ h, il h ≤ 3
  hil0 : ∀ h, mm ≤ h → il h = 0
  hli0 : ∀ h, mm ≤ h → li h = false
  hbg0 : ∀ h, mm ≤ h → bg0 h = false
  box : Box w bd 61 vsx
  c7 : vsx[7]? = some (.slice (some ⟨gO, 0, none⟩) n n)
  c10 : vsx[10]? = some (.slice (some ⟨gE, 0, none⟩) n n)
  c15 : vsx[15]? = some (.slice (some ⟨gB, 0, none⟩) mm mm)
  c16 : vsx[16]? = some (.slice (some ⟨gI, 0, none⟩) mm mm)
  c17 : vsx[17]? = some (.slice (some ⟨gA, 0, none⟩) mm mm)
  aO : Arr w gO 33 n n (mr n R)
  rO : ∀ i, i < n → w.ownsRow 0 3 1 (R i) (O i).length (nv .i64 (O i))
  aOc : Arr w gOc 33 n n (mr n rc)
  rC : ∀ i, i < n → w.ownsRow 0 3 1 (rc i) (O i).length (nv .i64 (O i))
  aE : Arr w gE 4 n n (mr n fun i => .bool (E i))
  aEc : Arr w gEc 4 n cEc (mr n fun i => .bool (E i))
  aB : Arr w gB 4 mm mm (mr mm fun i => .bool (bg0 i))
  aI : Arr w gI 37 mm mm (mr mm inV)
  aA : Arr w gA 33 mm mm (mr mm atV)
  ri : RI b1 w (fun j => mkIn (il j)) (fun j => mkAt (li j)) inV atV
  aL : Arr w gL 3 n n (mr n fun i => .int .i64 (il i : Int))
  aK : Arr w gK 4 n n (mr n fun i => .bool (li i))
  aV : Arr w gV 3 lv lv (nv .i64 vs)
  aVc : Arr w gVc 3 lv cVc (nv .i64 vs)
  aBc : Arr w gBc 4 mm cBc (mr mm fun i => .bool (bg0 i))
  aP : Arr w gP 4 n n (mr n fun i => .bool (P i))
  aN : Arr w gN 4 n n (mr n fun i => .bool (LN i))
  aC : Arr w gC 3 n n (mr n fun h => .int .i64 (lsum (fun p => occ E (O p) h) LN n : Nat))
  hP : ∀ x, P x = true ↔ IP ⟨n, O, E, vs, mkS bg0 li il mm⟩ x
  hLN : ∀ p, LN p = (P p && !li p)
  hF1 : mm ≤ FL
  hF2 : FL ≤ n
  hF3 : ∀ p, p < n → P p = true → p < FL
  hF4 : FL = mm ∨ ∃ p, P p = true ∧ FL = p + 1
  o1 : b13 ≤ gB ∧ b13 ≤ gI ∧ b13 ≤ gA ∧ gB ≤ gA ∧ gI ≤ gA ∧ gA < b1 ∧ b1 ≤ b19 ∧ b19 ≤ bd
  oO : gO < b13 ∧ gE < b13 ∧ gOc < b13 ∧ gEc < b13
  oR : ∀ i g, i < n → (R i).ownBlock = some g → g < b13
  oC : ∀ i g, i < n → (rc i).ownBlock = some g → g < b13
  oL : gA < gL ∧ gL < b1 ∧ gA < gK ∧ gK < b1
  oI : ∀ j g, (inV j).ownBlock = some g → g < b19
  oA : ∀ j g, (atV j).ownBlock = some g → g < b19
  oV : b19 ≤ gV ∧ b19 ≤ gVc ∧ b19 ≤ gBc ∧ b19 ≤ gP ∧ b19 ≤ gN ∧ b19 ≤ gC
  oW : gV < bd ∧ gVc < bd ∧ gBc < bd ∧ gP < bd ∧ gN < bd ∧ gC < bd

section
variable {B : Nat} {w0 w : World} {b13 b1 b19 bd : Nat} {vsx : Array Value} {n gO gOc mm gE gEc cEc gB gI gA gL gK gV lv gVc cVc gBc cBc gP FL gN gC : Nat} {O : Nat → List Nat} {E li LN P bg0 : Nat → Bool} {il : Nat → Nat} {vs : List Nat} {R rc inV atV : Nat → Value}
theorem Pre.det (h : Pre B w0 w b13 b1 b19 bd vsx n gO gOc mm gE gEc cEc gB gI gA gL gK gV lv gVc cVc gBc cBc gP FL gN gC O E li LN P bg0 il vs R rc inV atV) : Det (Fx bd b13 gA b1 b19) n O E R w bd (mkS bg0 li il mm) := by
  have o1 := h.o1
  have oO := h.oO
  refine ⟨⟨vsx, gO, gE, gB, gI, gA, mm, mm, mm, mm, mm, mm, R, inV, atV⟩, ?_, rfl, rfl, rfl, rfl⟩
  refine ⟨h.box, h.c7, h.c10, h.c15, h.c16, h.c17, h.aO, h.rO, h.aE, h.aB, h.aI, h.aA, fun i _ => h.ri.inRow i, fun i _ => h.ri.atRow i, fun i _ => h.ri.atNil i, h.hbg0, ?_, ?_, fun i j g _ _ => h.ri.dis i j g, ?_, ?_, ?_, ?_, ?_, ?_, ?_, ?_, ?_, ?_⟩
  · intro i hi
    show mkIn (il i) = []
    rw [h.hil0 i hi]; rfl
  · intro i hi
    show mkAt (li i) = []
    rw [h.hli0 i hi]; rfl
  · rintro ⟨h1, _⟩; omega
  · rintro ⟨_, h1⟩
    have h1' : gB < b13 ∨ (gA < gB ∧ gB < b1) ∨ b19 ≤ gB := h1
    omega
  · rintro ⟨_, h1⟩
    have h1' : gI < b13 ∨ (gA < gI ∧ gI < b1) ∨ b19 ≤ gI := h1
    omega
  · rintro ⟨_, h1⟩
    have h1' : gA < b13 ∨ (gA < gA ∧ gA < b1) ∨ b19 ≤ gA := h1
    omega
  · rintro i g _ hg ⟨_, h1⟩
    have := h.ri.inB i g hg
    have := h.oI i g hg
    omega
  · rintro i g _ hg ⟨_, h1⟩
    have := h.ri.atB i g hg
    have := h.oA i g hg
    omega
  · exact ⟨by show gO < bd; omega, .inl oO.1⟩
  · exact ⟨by show gE < bd; omega, .inl oO.2.1⟩
  · intro i g hi hg
    have := h.oR i g hi hg
    exact ⟨by omega, .inl this⟩
  · rintro k ⟨hk, _⟩
    exact Nat.lt_trans hk h.box.lt

theorem Pre.tl (h : Pre B w0 w b13 b1 b19 bd vsx n gO gOc mm gE gEc cEc gB gI gA gL gK gV lv gVc cVc gBc cBc gP FL gN gC O E li LN P bg0 il vs R rc inV atV) {w' : World} {s : DS} {D K : Nat → Bool} (hM : MInv ⟨n, O, E, vs, mkS bg0 li il mm⟩ s [] D K) (hD : Det (Fx bd b13 gA b1 b19) n O E R w' bd s) (hK : Keep (Fx bd b13 gA b1 b19) w w') :
    ∃ m, Tl B w0 w' (Fx bd b13 gA b1 b19) n FL bd gOc gEc cEc gL gK gN gP gBc cBc gC mm O E li LN P bg0 il (fun h => lsum (fun p => occ E (O p) h) LN n) s m rc (fun j => mkIn (il j)) ∧ Arr w' gV 3 lv lv (nv .i64 vs) ∧ Arr w' gVc 3 lv cVc (nv .i64 vs) := by
  have o1 := h.o1
  have oO := h.oO
  have oL := h.oL
  have oV := h.oV
  have oW := h.oW
  have F := fin1 n FL mm O E li LN P bg0 il vs s D K h.hvn h.hO h.hP h.hLN h.hF1 h.hF3 h.hF4 hM
  obtain ⟨m, hX, hR, hl1, hl2, hl3⟩ := hD
  have hlow : ∀ k, k < b13 → Fx bd b13 gA b1 b19 k := fun k hk => ⟨by omega, .inl hk⟩
  have hmid : ∀ k, gA < k → k < b1 → Fx bd b13 gA b1 b19 k := fun k h1 h2 => ⟨by omega, .inr (.inl ⟨h1, h2⟩)⟩
  have hhigh : ∀ k, b19 ≤ k → k < bd → Fx bd b13 gA b1 b19 k := fun k h1 h2 => ⟨h2, .inr (.inr h1)⟩
  have hin := hM.inLe (fun x => by show (mkIn (il x)).length ≤ 3; rw [mkIn_len]; exact h.hil x) h.hT
  refine ⟨m, ⟨?_, h.hn, h.hF2, hX, by rw [hl1, F.L], by rw [hl2, F.L], by rw [hl3, F.L], h.aOc.blk (hK.block _ (hlow _ (by omega))), fun i hi => row_blk (h.rC i hi) (fun g hg => hK.block g (hlow g (h.oC i g hi hg))), h.aEc.blk (hK.block _ (hlow _ (by omega))), h.aL.blk (hK.block _ (hmid _ (by omega) (by omega))), h.aK.blk (hK.block _ (hmid _ (by omega) (by omega))), h.aN.blk (hK.block _ (hhigh _ (by omega) (by omega))), h.aP.blk (hK.block _ (hhigh _ (by omega) (by omega))), h.aBc.blk (hK.block _ (hhigh _ (by omega) (by omega))), h.aC.blk (hK.block _ (hhigh _ (by omega) (by omega))), h.hO, fun i hi => Nat.le_trans (lsum_ge (fun p => (O p).length) i n hi) h.hT, fun x => mkIn_len _, fun x => Nat.le_trans (hin x) (by omega), fun i _ => F.says i, fun i _ => F.bg i, h.hbg0, fun i _ => F.len i, F.pre⟩, h.aV.blk (hK.block _ (hhigh _ (by omega) (by omega))), h.aVc.blk (hK.block _ (hhigh _ (by omega) (by omega)))⟩
  have hB := h.hB
  exact ⟨hK.os.trans hB.os, hK.tape.trans hB.tape, hK.output.trans hB.output, Nat.le_trans hB.size hK.size, fun k hk => (hK.block k (hlow k (by have := h.hBb; omega))).trans (hB.block k hk)⟩
end

set_option maxHeartbeats 8000000 in
set_option maxRecDepth 1000000 in
theorem ph33 (B : Nat) (w0 w : World) (b13 b1 b19 bd : Nat) (vsx : Array Value) (n : Nat) (gO : Nat) (gOc : Nat) (mm : Nat) (gE : Nat) (gEc : Nat) (cEc : Nat) (gB : Nat) (gI : Nat) (gA : Nat) (gL : Nat) (gK : Nat) (gV : Nat) (lv : Nat) (gVc : Nat) (cVc : Nat) (gBc : Nat) (cBc : Nat) (gP : Nat) (FL : Nat) (gN : Nat) (gC : Nat) (O : Nat → List Nat) (E li LN P bg0 : Nat → Bool) (il : Nat → Nat) (vs : List Nat) (R rc inV atV : Nat → Value)
    (h : Pre B w0 w b13 b1 b19 bd vsx n gO gOc mm gE gEc cEc gB gI gA gL gK gV lv gVc cVc gBc cBc gP FL gN gC O E li LN P bg0 il vs R rc inV atV)
    (a : Act) (h59 : a.tmps.getD 59 undef = .pointer (some ⟨bd, 0, none⟩)) (hS : S32 a n gO gOc mm gE gEc cEc gB gI gA gL gK gV lv gVc cVc gBc cBc gP FL gN gC) :
    Code.wp Yba.prog (dropSeq 33 (Yba.f4.body.getD .skip)) (bodyPost Yba.prog Yba.f4 (LPost B w0)) a w := by
  have hC := markBelow_any (Fx bd b13 gA b1 b19) n O E R bd gV lv vs (mkS bg0 li il mm) w h.hn h.hmm (by rw [h.hvs]; exact h.hlv) h.hvn h.hO h.hT (fun x => by show (mkIn (il x)).length ≤ 3; rw [mkIn_len]; exact h.hil x) (fun i g hi hg => ⟨by have := h.oR i g hi hg; have := h.o1; omega, .inl (h.oR i g hi hg)⟩) h.det (by rw [h.hvs]; exact h.aV) ⟨h.oW.1, .inr (.inr h.oV.1)⟩
  rw [h.hvs] at hC
  have H : Hid _ := h
  clear h
  obtain ⟨xf, hxa, hxf⟩ := fr_of a hS.sz hS.df
  have hq18 := (hxf 18).symm.trans hS.s18
  have hq19 := (hxf 19).symm.trans hS.s19
  have hq20 := (hxf 20).symm.trans hS.s20
  have hq26 := (hxf 26).symm.trans hS.s26
  have hq27 := (hxf 27).symm.trans hS.s27
  have hq29 := (hxf 29).symm.trans hS.s29
  have hq30 := (hxf 30).symm.trans hS.s30
  have hq31 := (hxf 31).symm.trans hS.s31
  have hq32 := (hxf 32).symm.trans hS.s32
  have hq33 := (hxf 33).symm.trans hS.s33
  have hq34 := (hxf 34).symm.trans hS.s34
  have hq39 := (hxf 39).symm.trans hS.s39
  have hq42 := (hxf 42).symm.trans hS.s42
  have hq43 := (hxf 43).symm.trans hS.s43
  have hq44 := (hxf 44).symm.trans hS.s44
  have hq52 := (hxf 52).symm.trans hS.s52
  have hq54 := (hxf 54).symm.trans hS.s54
  have hq55 := (hxf 55).symm.trans hS.s55
  have hq59 := (hxf 59).symm.trans h59
  subst hxa
  conv => arg 4; simp only [fr, hq18, hq19, hq20, hq26, hq27, hq29, hq30, hq31, hq32, hq33, hq34, hq39, hq42, hq43, hq44, hq52, hq54, hq55, hq59]
  clear hxf hS h59 hq18 hq19 hq20 hq26 hq27 hq29 hq30 hq31 hq32 hq33 hq34 hq39 hq42 hq43 hq44 hq52 hq54 hq55 hq59
  conv => arg 2; whnf
  refine wp_seq_k (fun K hK => ?_)
  have HK : Hid _ := hK
  clear hK
  go_wp2_with fail
  refine hC.mono ?_
  rintro e w' ⟨rfl, s, D, Kl, hM, hD, hKp⟩
  clear hC
  obtain ⟨m, hT, aV, aVc⟩ := H.out.tl hM hD hKp
  have HT : Hid _ := hT
  have HV : Hid _ := aV
  have HVc : Hid _ := aVc
  have hvs := H.out.hvs
  have hvl : vs.length ≤ 16384 := by rw [hvs]; exact H.out.hlv
  have Hv : Hid _ := hvs
  clear hT aV aVc hM hD hKp hvs
  go_wp2_with fail
  refine HK.out _ _ ?_
  clear HK K
  refine tail34 B w0 w' _ n FL bd gOc gEc cEc gL gK gN gP gBc cBc gC mm O E li LN P bg0 il _ s m rc _ gV lv gVc cVc vs hvl (by rw [Hv.out]; exact HV.out) (by rw [Hv.out]; exact HVc.out) _ ⟨rfl, rfl, rfl, rfl, rfl, rfl, rfl, rfl, rfl, rfl, rfl, rfl, rfl, rfl⟩ (by rw [Hv.out]; rfl) (by rw [Hv.out]; rfl) HT.out (fun a w hS h => ?_)
  refine tail35 B w0 w _ n FL bd gOc gEc cEc gL gK gN gP gBc cBc gC mm O E li LN P bg0 il _ s m rc _ a hS h (fun a w hS h => ?_)
  refine tail36 B w0 w _ n FL bd gOc gEc cEc gL gK gN gP gBc cBc gC mm O E li LN P bg0 il _ s m rc _ a hS h (fun a w hS h => ?_)
  refine tail37 B w0 w _ n FL bd gOc gEc cEc gL gK gN gP gBc cBc gC mm O E li LN P bg0 il _ s m rc _ a hS h (fun a w hS h => ?_)
  exact tail38 B w0 w _ n FL bd gOc gEc cEc gL gK gN gP gBc cBc gC mm O E li LN P bg0 il _ s m rc _ a hS h
end Go.Proofs.Ybulkekys
